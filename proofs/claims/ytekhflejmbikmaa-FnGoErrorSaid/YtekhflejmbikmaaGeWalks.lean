/- FnGoError, third part: the law's walk for every sum of conditions and every traps: conditions are told as they are, and an error exactly if one is trapped. No condition. -/
import Derived.Test.YtekhflejmbikmaaGeString
import Derived.Test.YtekhflejmbikmaaGeCond
import Derived.Test.YtekhflejmbikmaaPFnGoErrorx1
import Derived.WideLaws
namespace Go.Proofs.Ytekhflejmbikmaa.GE
open Go.RowKit

theorem goerr_nil (r t : Nat) (w : World) (h3 : (bits .and .u32 (r : Int) 3 != 0) = false) (ht : (bits .and .u32 (r : Int) (t : Int) != 0) = false) :
    Calls Try.prog 27 #[.int .u32 r, .int .u32 t] w fun e w' => e = .returned (.tuple #[.int .u32 r, .nilIface]) ∧ w = w' := by
  go_enter Try.func27, Try.ntmps27
  go_wp2_with fail
  go_ret2
  exact ⟨rfl, rfl⟩

theorem goerr_some (r t u : Nat) (w : World) (h3 : (bits .and .u32 (r : Int) 3 != 0) = false) (hu : bits .and .u32 (r : Int) (t : Int) = (u : Int)) (h4 : u < 4096) (ht : ((u : Int) != 0) = true) :
    Calls Try.prog 27 #[.int .u32 r, .int .u32 t] w fun e w' => (∃ p, e = .returned (.tuple #[.int .u32 r, .iface 56 (.pointer (some p))])) ∧ Below w.heap.size w w' := by
  go_enter Try.func27, Try.ntmps27
  go_wp2_with fail
  refine (string_any u h4 _).mono ?_; rintro e w1 ⟨⟨s, rfl⟩, hb1⟩
  go_wp2_with fail
  refine (new_any s _).mono ?_; rintro e w2 ⟨rfl, hb2⟩
  go_wp2_with fail
  go_ret2
  exact ⟨⟨_, rfl⟩, hb1.trans (hb2.mono hb1.size)⟩

theorem region_quiet {P : Program} {id : Nat} {Q : Exit → Act → World → Prop} {a : Act} {w : World} {l : List Oper} (hm : P.follows .mixedOrders = true) (hB : Region.lexB .any l.toArray = true)
    (h : wpStill P l.toArray w.drew (fun a' => Q .normal a' w.drew) l a) : (Code.region id l.toArray true).wp P Q a w :=
  wp_region_still_lit hm hB h

theorem below_drew1 {B : Nat} {w W : World} (h : Below B w W) : Below B w W.drew := h.drew

/-- what impl.raised makes of a sum of our conditions -/
def rz (n : Nat) : Nat := 4 * (n % 1024) + n / 1024
def one (n : Nat) : Bool := decide (PFnGoError.impl_raised.f 20 (n : Int) = some (rz n : Int))
def many : Nat → Nat → Bool
  | 0, a => one a
  | k + 1, a => many k a && many k (a + 2 ^ k)
theorem many_one (k : Nat) : ∀ a, many k a = true → ∀ n, a ≤ n → n < a + 2 ^ k → one n = true := by
  induction k with
  | zero => intro a h n h1 h2; have : n = a := by simp at h2; omega
            subst this; exact h
  | succ k ih =>
    intro a h n h1 h2
    simp only [many, Bool.and_eq_true] at h
    have e : 2 ^ (k + 1) = 2 ^ k + 2 ^ k := by rw [Nat.pow_succ]; omega
    by_cases hn : n < a + 2 ^ k
    · exact ih a h.1 n h1 hn
    · exact ih (a + 2 ^ k) h.2 n (by omega) (by omega)
theorem all0 : many 10 0 = true := by kernel_rfl
theorem all1 : many 10 1024 = true := by kernel_rfl
theorem all2 : many 10 2048 = true := by kernel_rfl
theorem all3 : many 10 3072 = true := by kernel_rfl
theorem raised_val (n : Nat) (h : n < 4096) : PFnGoError.impl_raised.f 20 (n : Int) = some (rz n : Int) := by
  have : one n = true := by
    by_cases h0 : n < 1024
    · exact many_one 10 0 all0 n (Nat.zero_le _) (by simp; omega)
    by_cases h1 : n < 2048
    · exact many_one 10 1024 all1 n (by omega) (by simp; omega)
    by_cases h2 : n < 3072
    · exact many_one 10 2048 all2 n (by omega) (by simp; omega)
    · exact many_one 10 3072 all3 n (by omega) (by simp; omega)
  exact of_decide_eq_true this
theorem raised_any (n : Nat) (h : n < 4096) (w : World) :
    Calls Try.prog 10 #[.int .i64 n] w fun e w' => e = .returned (.int .u32 (rz n : Int)) ∧ Below w.heap.size w w' :=
  PFnGoError.impl_raised.calls 20 n (rz n) w (raised_val n h)

def cone (n : Nat) : Bool := decide (condN (4 * n) 12 = (n : Int))
def cmany : Nat → Nat → Bool
  | 0, a => cone a
  | k + 1, a => cmany k a && cmany k (a + 2 ^ k)
theorem cmany_one (k : Nat) : ∀ a, cmany k a = true → ∀ n, a ≤ n → n < a + 2 ^ k → cone n = true := by
  induction k with
  | zero => intro a h n h1 h2; have : n = a := by simp at h2; omega
            subst this; exact h
  | succ k ih =>
    intro a h n h1 h2
    simp only [cmany, Bool.and_eq_true] at h
    have e : 2 ^ (k + 1) = 2 ^ k + 2 ^ k := by rw [Nat.pow_succ]; omega
    by_cases hn : n < a + 2 ^ k
    · exact ih a h.1 n h1 hn
    · exact ih (a + 2 ^ k) h.2 n (by omega) (by omega)
theorem call0 : cmany 10 0 = true := by kernel_rfl
theorem cond_val (n : Nat) (h : n < 1024) : condN (4 * n) 12 = (n : Int) :=
  of_decide_eq_true (cmany_one 10 0 call0 n (Nat.zero_le _) (by simp; omega))

theorem and_four (a t : Nat) : (4 * a) &&& (4 * (t % 1024) + t / 1024 % 4) = 4 * (a &&& (t % 1024)) := by
  apply Nat.eq_of_testBit_eq
  intro i
  rw [Nat.testBit_and, show 4 * a = 2 ^ 2 * a from rfl, show 4 * (a &&& (t % 1024)) = 2 ^ 2 * (a &&& (t % 1024)) from rfl, show 4 * (t % 1024) = 2 ^ 2 * (t % 1024) from rfl,
    Nat.testBit_two_pow_mul, Nat.testBit_two_pow_mul, Nat.testBit_two_pow_mul_add _ (Nat.mod_lt _ (by decide))]
  by_cases h : i < 2
  · have : ¬ 2 ≤ i := by omega
    simp [this]
  · have : 2 ≤ i := by omega
    simp [h, this, Nat.testBit_and]

/-- two sums meet exactly where the raised ones do -/
theorem meet (a t : Nat) (ha : a < 1024) (ht : t < 4096) : bits .and .u32 ((4 * a : Nat) : Int) ((rz t : Nat) : Int) = ((4 * (a &&& t) : Nat) : Int) := by
  have h1 := (bits_nat .u32 32 (by decide) u32_keeps (4 * a) (rz t) (by omega) (by unfold rz; omega)).1
  rw [h1]
  have e : t / 1024 % 4 = t / 1024 := by omega
  have e2 : a &&& (t % 1024) = a &&& t := by
    have : a % 1024 = a := Nat.mod_eq_of_lt ha
    apply Nat.eq_of_testBit_eq
    intro i
    rw [Nat.testBit_and, Nat.testBit_and, show (1024 : Nat) = 2 ^ 10 from rfl, Nat.testBit_mod_two_pow]
    by_cases h : i < 10
    · simp [h]
    · have : a.testBit i = false := Nat.testBit_lt_two_pow (Nat.lt_of_lt_of_le ha (by rw [show (1024 : Nat) = 2 ^ 10 from rfl]; exact Nat.pow_le_pow_right (by decide) (by omega)))
      simp [this]
  have := and_four a t
  rw [e, e2] at this
  rw [show rz t = 4 * (t % 1024) + t / 1024 from rfl, this]

theorem igoerr_nil (a t R T : Nat) (w : World)
    (ha : Hid (∀ w, Calls Try.prog 10 #[.int .i64 a] w fun e w' => e = .returned (.int .u32 R) ∧ Below w.heap.size w w'))
    (ht : Hid (∀ w, Calls Try.prog 10 #[.int .i64 t] w fun e w' => e = .returned (.int .u32 T) ∧ Below w.heap.size w w'))
    (hc : Hid (∀ w, Calls Try.prog 28 #[.int .u32 R] w fun e w' => e = .returned (.int .i64 a) ∧ w = w'))
    (hg : Hid (∀ w, Calls Try.prog 27 #[.int .u32 R, .int .u32 T] w fun e w' => e = .returned (.tuple #[.int .u32 R, .nilIface]) ∧ w = w')) :
    Calls Try.prog 9 #[.int .i64 a, .int .i64 t] w fun e w' => e = .returned (.tuple #[.int .i64 a, .bool true]) ∧ Below w.heap.size w w' := by
  have he : ∀ W : World, (binOp .eql 47 .nilIface .nilIface).run Try.prog W = .ok (.bool true) W := fun W => run_eql_nil_nil W 47 Try.underlying47
  go_enter Try.func9, Try.ntmps9
  go_wp2_with fail
  refine (ha.out _).mono ?_; rintro e w1 ⟨rfl, hb1⟩
  go_wp2_with fail
  refine (ht.out _).mono ?_; rintro e w2 ⟨rfl, hb2⟩
  go_wp2_with fail
  refine (hg.out _).mono ?_; rintro e w3 ⟨rfl, hw⟩; subst hw
  have hB : Below w.heap.size w w2 := hb1.trans (hb2.mono hb1.size)
  clear hb1 hb2
  go_wp2_with fail
  refine region_quiet (by kernel_rfl) (by kernel_rfl) ?_
  repeat still_step
  still_call ((hc.out _).mono fun e w' h => ⟨h.1, h.2.symm⟩)
  repeat still_step
  refine wpStill_nil ?_
  go_wp2_with fail
  go_ret2
  exact ⟨rfl, below_drew1 hB⟩

theorem igoerr_some (a t R T : Nat) (w : World)
    (ha : Hid (∀ w, Calls Try.prog 10 #[.int .i64 a] w fun e w' => e = .returned (.int .u32 R) ∧ Below w.heap.size w w'))
    (ht : Hid (∀ w, Calls Try.prog 10 #[.int .i64 t] w fun e w' => e = .returned (.int .u32 T) ∧ Below w.heap.size w w'))
    (hc : Hid (∀ w, Calls Try.prog 28 #[.int .u32 R] w fun e w' => e = .returned (.int .i64 a) ∧ w = w'))
    (hg : Hid (∀ w, Calls Try.prog 27 #[.int .u32 R, .int .u32 T] w fun e w' => (∃ p, e = .returned (.tuple #[.int .u32 R, .iface 56 (.pointer (some p))])) ∧ Below w.heap.size w w')) :
    Calls Try.prog 9 #[.int .i64 a, .int .i64 t] w fun e w' => e = .returned (.tuple #[.int .i64 a, .bool false]) ∧ Below w.heap.size w w' := by
  have he : ∀ (p : Addr) (W : World), (binOp .eql 47 (.iface 56 (.pointer (some p))) .nilIface).run Try.prog W = .ok (.bool false) W := fun p W => run_eql_held_nil W 47 56 _ Try.underlying47
  go_enter Try.func9, Try.ntmps9
  go_wp2_with fail
  refine (ha.out _).mono ?_; rintro e w1 ⟨rfl, hb1⟩
  go_wp2_with fail
  refine (ht.out _).mono ?_; rintro e w2 ⟨rfl, hb2⟩
  go_wp2_with fail
  refine (hg.out _).mono ?_; rintro e w3 ⟨⟨p, rfl⟩, hb3⟩
  have hB : Below w.heap.size w w3 := (hb1.trans (hb2.mono hb1.size)).trans (hb3.mono (Nat.le_trans hb1.size hb2.size))
  clear hb1 hb2 hb3
  go_wp2_with fail
  refine region_quiet (by kernel_rfl) (by kernel_rfl) ?_
  repeat still_step
  still_call ((hc.out _).mono fun e w' h => ⟨h.1, h.2.symm⟩)
  repeat still_step
  refine wpStill_nil ?_
  go_wp2_with fail
  go_ret2
  exact ⟨rfl, below_drew1 hB⟩

theorem igoerr_any (a t : Nat) (ha : a < 1024) (ht : t < 4096) (w : World) :
    Calls Try.prog 9 #[.int .i64 a, .int .i64 t] w fun e w' => e = .returned (.tuple #[.int .i64 a, .bool (decide ((a &&& t) = 0))]) ∧ Below w.heap.size w w' := by
  have hra : rz a = 4 * a := by unfold rz; omega
  have hm := meet a t ha ht
  have h3 : (bits .and .u32 ((rz a : Nat) : Int) 3 != 0) = false := by
    have := bits_mask .u32 32 (by decide) u32_keeps 2 (by decide) ((rz a : Nat) : Int) (by omega) (by rw [hra]; omega)
    have e3 : bits .and .u32 ((rz a : Nat) : Int) 3 = ((rz a : Nat) : Int) % 4 := this
    rw [e3, hra]
    simp
  rw [← hra] at hm
  have hcv := cond_val a ha
  rw [← hra] at hcv
  have hrl : rz a < 4096 := by omega
  have hc : Hid (∀ w, Calls Try.prog 28 #[.int .u32 (rz a : Nat)] w fun e w' => e = .returned (.int .i64 a) ∧ w = w') := Lib.hid (fun w => by rw [← hcv]; exact cond_any (rz a) hrl w)
  have hA : Hid (∀ w, Calls Try.prog 10 #[.int .i64 a] w fun e w' => e = .returned (.int .u32 (rz a : Nat)) ∧ Below w.heap.size w w') := Lib.hid (fun w => raised_any a (by omega) w)
  have hT : Hid (∀ w, Calls Try.prog 10 #[.int .i64 t] w fun e w' => e = .returned (.int .u32 (rz t : Nat)) ∧ Below w.heap.size w w') := Lib.hid (fun w => raised_any t ht w)
  by_cases h0 : (a &&& t) = 0
  · rw [show decide ((a &&& t) = 0) = true by simpa using h0]
    exact igoerr_nil a t (rz a) (rz t) w hA hT hc (Lib.hid (fun w => goerr_nil (rz a) (rz t) w h3 (by rw [hm, h0]; rfl)))
  · rw [show decide ((a &&& t) = 0) = false by simpa using h0]
    exact igoerr_some a t (rz a) (rz t) w hA hT hc (Lib.hid (fun w => goerr_some (rz a) (rz t) (4 * (a &&& t)) w h3 hm
      (by have := @Nat.and_le_left a t; omega) (by simp only [bne_iff_ne, ne_eq]; omega)))

theorem law_walk (c t : Nat) (hc : c ≤ 65535) (ht : t ≤ 65535) (w : World) :
    Calls Try.prog 5 #[.int .u16 c, .int .u16 t] w fun e w' => e = .returned (.bool true) ∧ Below w.heap.size w w' := by
  have hand : bits .and .i64 ((c % 1024 : Nat) : Int) ((t % 4096 : Nat) : Int) = (((c % 1024) &&& (t % 4096) : Nat) : Int) :=
    (bits_nat .i64 32 (by decide) (fun n h0 h1 => IntWalk.i64_in n (by omega)) (c % 1024) (t % 4096) (by omega) (by omega)).1
  have hz : (bits .and .i64 ((c % 1024 : Nat) : Int) ((t % 4096 : Nat) : Int) == 0) = decide (((c % 1024) &&& (t % 4096)) = 0) := by
    rw [hand]
    by_cases h : ((c % 1024) &&& (t % 4096)) = 0
    · simp [h]
    · simp [h]
  obtain ⟨a, ea⟩ : ∃ a, a = c % 1024 := ⟨_, rfl⟩
  obtain ⟨b, eb⟩ : ∃ b, b = t % 4096 := ⟨_, rfl⟩
  have ha : a < 1024 := by omega
  have hb : b < 4096 := by omega
  rw [← ea, ← eb] at hz
  have e1 : ((c : Int) % 1024) = (a : Int) := by omega
  have e2 : ((t : Int) % 4096) = (b : Int) := by omega
  have E1 := Lib.hid e1
  have E2 := Lib.hid e2
  have hgood : decide ((0 : Nat) &&& 0 = 0) = true := by decide
  clear hand e1 e2 ea eb
  go_enter Try.func5, Try.ntmps5
  go_wp2_with fail
  rw [E1.out, E2.out]
  clear E1 E2
  refine (igoerr_any a b ha hb _).mono ?_; rintro e w1 ⟨rfl, hb1⟩
  generalize decide ((a &&& b) = 0) = D at hz ⊢
  go_wp2_with fail
  refine (igoerr_any 0 0 (by omega) (by omega) _).mono ?_; rintro e w2 ⟨rfl, hb2⟩
  rw [hgood]
  clear hgood
  have hB : Below w.heap.size w w2 := hb1.trans (hb2.mono hb1.size)
  clear hb1 hb2
  cases D
  · go_wp2_with fail
    go_ret
    exact ⟨rfl, hB⟩
  · go_wp2_with fail
    go_ret
    exact ⟨rfl, hB⟩
end Go.Proofs.Ytekhflejmbikmaa.GE
