/- Contracts of nat.norm, Int.SetBits, Int.Set and BigInt.Set into a nought, SetMathBigInt, MathBigInt, Bits. Lengths up to a hundred thousand words. -/
import Derived.Test.YtdfcomilhjoooaaGreatDoorBase1
namespace Go.Proofs.YtdfcomilhjoooaaGreatDoor.Base
open Go.RowKit Go.Proofs.YtdfcomilhjoooaaGreatDoorW.PrintWords

/-- how many of the first k words are left where the noughts at their end are left out -/
def nlTo (l : List Int) : Nat → Nat
  | 0 => 0
  | k + 1 => if l.getD k 0 = 0 then nlTo l k else k + 1
theorem nlTo_le (l : List Int) (k : Nat) : nlTo l k ≤ k := by
  induction k with
  | zero => exact Nat.le_refl _
  | succ k ih => unfold nlTo; split <;> omega

theorem norm_any (A : Option Addr) (c : Nat) (l : List Int) (hl : l.length ≤ 100000) (hc : l.length ≤ c) (hcm : c ≤ 9223372036854775807) (hA : A = none → c = 0) (w : World) (hr : ReadsInt w .u64 A l.length l) :
    Calls Tryz.prog 45 #[.slice A l.length c] w fun e w' => e = .returned (.slice A (nlTo l l.length) c) ∧ w = w' := by
  cases A with
  | none =>
    obtain rfl := hA rfl
    obtain rfl : l = [] := List.eq_nil_of_length_eq_zero (by omega)
    clear hr hl hc hcm hA
    go_enter Tryz.func45, Tryz.ntmps45
    go_wp2_with fail
    refine wp_loop_rounds 1 ?_; rw [rounds_succ]
    go_wp2_with fail
    go_ret
    exact ⟨rfl, rfl⟩
  | some ad =>
    obtain ⟨n, hn⟩ : ∃ n, n = l.length := ⟨_, rfl⟩
    rw [← hn] at hl hc hr ⊢
    have HR := Lib.hid hr
    clear hr hA hn
    go_enter Tryz.func45, Tryz.ntmps45
    go_wp2_with fail
    go_loop [3] (fun v3 => ∃ k : Nat, k ≤ n ∧ v3 = .int .i64 k ∧ nlTo l k = nlTo l n) (fun v3 => (intOf v3).toNat)
    case atStart => exact ⟨n, Nat.le_refl _, rfl, rfl⟩
    case round =>
      obtain ⟨k, hk, rfl, he⟩ := hrel
      have HE := Lib.hid he
      clear he
      match k, hk, HE with
      | 0, hk, HE =>
        go_wp2_with fail
        go_ret
        have he := HE.out
        simp only [nlTo] at he
        exact ⟨by rw [← he]; rfl, rfl⟩
      | k + 1, hk, HE =>
        have hcell : w.cell? (ad.add k) = some (.int .u64 (l.getD k 0)) := by
          obtain ⟨ad', e, hcl⟩ := HR.out.2.2 (by omega)
          cases e
          exact hcl k (by omega)
        obtain ⟨x, hx⟩ : ∃ x, x = l.getD k 0 := ⟨_, rfl⟩
        rw [← hx] at hcell
        have HX := Lib.hid hx
        clear hx
        by_cases h0 : x = 0
        · subst h0
          go_wp2_with fail
          go_round
          case rel => exact ⟨k, by omega, by go_num, by have h := HE.out; rw [nlTo, if_pos HX.out.symm] at h; exact h⟩
          case measure => simp [intOf]
        · have hb : (x == 0) = false := by simpa using h0
          go_wp2_with fail
          go_ret
          have he := HE.out
          rw [nlTo, if_neg (by rw [← HX.out]; exact h0)] at he
          exact ⟨by rw [← he]; simp, rfl⟩
end Go.Proofs.YtdfcomilhjoooaaGreatDoor.Base
