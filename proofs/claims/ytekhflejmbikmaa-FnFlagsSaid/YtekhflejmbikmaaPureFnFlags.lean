/- The law FnFlags answers true at every input: for each of the 4096 sums of conditions the list of flags is as asked. No condition. -/
import Derived.Test.YtekhflejmbikmaaPFnFlagsx1
import Derived.KernelRfl
namespace Go.Proofs.Ytekhflejmbikmaa.Pure
open Go.RowKit Go.Proofs.Ytekhflejmbikmaa.PFnFlags Go.Proofs.YtekhflejmbikmaaW.PrintWords Go.Proofs.YtekhflejmbikmaaW.PrintLast

/-- the law at one sum of conditions -/
def one (n : Nat) : Bool := decide (laws_FnFlags.f 20 (n : Int) = some true)
/-- the law at 2^k sums from a on -/
def many : Nat → Nat → Bool
  | 0, a => one a
  | k + 1, a => many k a && many k (a + 2 ^ k)
theorem many_one (k : Nat) : ∀ a, many k a = true → ∀ n, a ≤ n → n < a + 2 ^ k → one n = true := by
  induction k with
  | zero => intro a h n h1 h2; have : n = a := by simp at h2; omega
            subst this; exact h
  | succ k ih =>
    intro a h n h1 h2
    simp only [many, Bool.and_eq_true] at h
    have e : 2 ^ (k + 1) = 2 ^ k + 2 ^ k := by rw [Nat.pow_succ]; omega
    by_cases hn : n < a + 2 ^ k
    · exact ih a h.1 n h1 hn
    · exact ih (a + 2 ^ k) h.2 n (by omega) (by omega)
theorem all0 : many 9 0 = true := by kernel_rfl
theorem all1 : many 9 512 = true := by kernel_rfl
theorem all2 : many 9 1024 = true := by kernel_rfl
theorem all3 : many 9 1536 = true := by kernel_rfl
theorem all4 : many 9 2048 = true := by kernel_rfl
theorem all5 : many 9 2560 = true := by kernel_rfl
theorem all6 : many 9 3072 = true := by kernel_rfl
theorem all7 : many 9 3584 = true := by kernel_rfl
theorem all (n : Nat) (h : n < 4096) : one n = true := by
  by_cases h0 : n < 512
  · exact many_one 9 0 all0 n (Nat.zero_le _) (by simp; omega)
  by_cases h1 : n < 1024
  · exact many_one 9 512 all1 n (by omega) (by simp; omega)
  by_cases h2 : n < 1536
  · exact many_one 9 1024 all2 n (by omega) (by simp; omega)
  by_cases h3 : n < 2048
  · exact many_one 9 1536 all3 n (by omega) (by simp; omega)
  by_cases h4 : n < 2560
  · exact many_one 9 2048 all4 n (by omega) (by simp; omega)
  by_cases h5 : n < 3072
  · exact many_one 9 2560 all5 n (by omega) (by simp; omega)
  by_cases h6 : n < 3584
  · exact many_one 9 3072 all6 n (by omega) (by simp; omega)
  · exact many_one 9 3584 all7 n (by omega) (by simp; omega)

theorem same (a : Int) (h0 : 0 ≤ a) : laws_FnFlags.f 20 a = laws_FnFlags.f 20 ((a.toNat % 4096 : Nat) : Int) := by
  have e : wrap64 (Int.tmod a 4096) = wrap64 (Int.tmod ((a.toNat % 4096 : Nat) : Int) 4096) := by
    obtain ⟨n, rfl⟩ := Int.eq_ofNat_of_zero_le h0
    rw [Int.tmod_eq_emod_of_nonneg (by omega), Int.tmod_eq_emod_of_nonneg (by omega)]
    congr 1
    simp
  unfold laws_FnFlags.f
  rw [e]

theorem FnFlags : laws_FnFlags.Pure := by
  intro a0 h
  have hx : 0 ≤ a0 ∧ a0 ≤ 65535 := by simpa [Lit.wf, IntKind.min, IntKind.max, IntKind.signed, IntKind.bits] using h
  refine ⟨20, ?_⟩
  rw [same a0 hx.1]
  exact of_decide_eq_true (all (a0.toNat % 4096) (Nat.mod_lt _ (by decide)))

end Go.Proofs.Ytekhflejmbikmaa.Pure
