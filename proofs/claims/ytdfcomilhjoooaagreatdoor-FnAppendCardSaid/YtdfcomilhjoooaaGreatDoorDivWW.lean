/- bigall.divWW, reciprocalWord and bitsDiv where the divisor is ten to the nineteenth. -/
import Derived.Test.YtdfcomilhjoooaaGreatDoorShelf
import Derived.Shelf.Spec.BitsCarry
import Derived.WalkLawsBesides
import Derived.WalkSpells
import Derived.Handy
import Derived.KernelRfl
import Derived.Lib.Hide
namespace Go.Proofs.YtdfcomilhjoooaaGreatDoor.Div
open Go.RowKit
set_option linter.unusedVariables false

theorem add64 (x y c : Int) (hx : 0 ≤ x) (hy : 0 ≤ y) (hc0 : 0 ≤ c) (hc : c ≤ 1) (w : World) :
    (callFunc 183 #[.int .u64 x, .int .u64 y, .int .u64 c]).run Tryz.prog w = .ok (.value (.tuple #[.int .u64 ((x + y + c) % 18446744073709551616), .int .u64 ((x + y + c) / 18446744073709551616)])) w := by
  rw [run_callFunc_extern Tryz.func183 (by kernel_rfl) (by kernel_rfl) (by kernel_rfl) (e := add64Entry) (by kernel_rfl), run_add64 x y c hx hy hc0 hc]
  rfl
/-- the borrow -/
def bor (x y b : Int) : Int := if x < y + b then 1 else 0
theorem sub64 (x y b : Int) (hx : 0 ≤ x) (hy : 0 ≤ y) (hy1 : y < 18446744073709551616) (hb0 : 0 ≤ b) (hb : b ≤ 1) (w : World) :
    (callFunc 191 #[.int .u64 x, .int .u64 y, .int .u64 b]).run Tryz.prog w = .ok (.value (.tuple #[.int .u64 ((x - y - b) % 18446744073709551616), .int .u64 (bor x y b)])) w := by
  obtain ⟨x, rfl⟩ := Int.eq_ofNat_of_zero_le hx
  obtain ⟨y, rfl⟩ := Int.eq_ofNat_of_zero_le hy
  obtain ⟨b, rfl⟩ := Int.eq_ofNat_of_zero_le hb0
  rw [run_callFunc_extern Tryz.func191 (by kernel_rfl) (by kernel_rfl) (by kernel_rfl) (e := sub64Entry) (by kernel_rfl), run_sub64 x y b (by omega)]
  have e1 : ((x + 18446744073709551616 - y - b) % 18446744073709551616 : Nat) = (((x : Int) - y - b) % 18446744073709551616) := by omega
  have e2 : ((if x < y + b then 1 else 0 : Nat) : Int) = bor x y b := by
    unfold bor
    by_cases h : x < y + b
    · rw [if_pos h, if_pos (by omega)]; rfl
    · rw [if_neg h, if_neg (by omega)]; rfl
  rw [← e1, ← e2]
  rfl
theorem mulI (x y : Int) (hx : 0 ≤ x) (hx1 : x < 18446744073709551616) (hy : 0 ≤ y) (hy1 : y < 18446744073709551616) (w : World) :
    Calls Tryz.prog 118 #[.int .u64 x, .int .u64 y] w fun e w' => e = .returned (.tuple #[.int .u64 (x * y / 18446744073709551616), .int .u64 (x * y % 18446744073709551616)]) ∧ w = w' := by
  obtain ⟨x, rfl⟩ := Int.eq_ofNat_of_zero_le hx
  obtain ⟨y, rfl⟩ := Int.eq_ofNat_of_zero_le hy
  refine (Tryz.bits_Mul x y (by omega) (by omega) w).mono ?_
  rintro e w' ⟨rfl, rfl⟩
  exact ⟨rfl, rfl⟩
/-- a product, a sum, a difference of two words -/
def MulE (x y : Int) (w : World) (e : Ending) (w' : World) : Prop := ∃ hi lo, e = .returned (.tuple #[.int .u64 hi, .int .u64 lo]) ∧ w = w' ∧ x * y = hi * 18446744073709551616 + lo ∧ 0 ≤ lo ∧ lo < 18446744073709551616 ∧ 0 ≤ hi
def AddE (x y c : Int) (w : World) (e : Ending) (w' : World) : Prop := ∃ s c', e = .returned (.tuple #[.int .u64 s, .int .u64 c']) ∧ w = w' ∧ x + y + c = c' * 18446744073709551616 + s ∧ 0 ≤ s ∧ s < 18446744073709551616 ∧ 0 ≤ c' ∧ c' ≤ 1
def SubE (x y b : Int) (w : World) (e : Ending) (w' : World) : Prop := ∃ s b', e = .returned (.tuple #[.int .u64 s, .int .u64 b']) ∧ w = w' ∧ x - y - b = s - b' * 18446744073709551616 ∧ 0 ≤ s ∧ s < 18446744073709551616 ∧ 0 ≤ b' ∧ b' ≤ 1
theorem mulE (x y : Int) (hx : 0 ≤ x ∧ x < 18446744073709551616) (hy : 0 ≤ y ∧ y < 18446744073709551616) (w : World) :
    Calls Tryz.prog 118 #[.int .u64 x, .int .u64 y] w fun e w' => MulE x y w e w' := by
  refine (mulI x y hx.1 hx.2 hy.1 hy.2 w).mono ?_
  rintro e w' ⟨rfl, rfl⟩
  have h := Int.mul_nonneg hx.1 hy.1
  unfold MulE
  generalize x * y = z at h ⊢
  exact ⟨_, _, rfl, rfl, by omega, by omega, by omega, by omega⟩
theorem results_2 {fn : Func} {t u : Tmp} (h : fn.results = #[.tmp t, .tmp u]) (tmps : Array Value) (P : Program) (w : World) : (results fn tmps).run P w = .ok (.tuple #[tmps.getD t undef, tmps.getD u undef]) w := results_tmp2 h tmps P w
theorem addE (x y c : Int) (hx : 0 ≤ x ∧ x < 18446744073709551616) (hy : 0 ≤ y ∧ y < 18446744073709551616) (hc : 0 ≤ c ∧ c ≤ 1) (w : World) :
    Calls Tryz.prog 156 #[.int .u64 x, .int .u64 y, .int .u64 c] w fun e w' => AddE x y c w e w' := by
  have h := add64 x y c hx.1 hy.1 hc.1 hc.2
  have H : Hid (AddE x y c w (.returned (.tuple #[.int .u64 ((x + y + c) % 18446744073709551616), .int .u64 ((x + y + c) / 18446744073709551616)])) w) := Lib.hid ⟨_, _, rfl, rfl, by omega, by omega, by omega, by omega, by omega⟩
  clear hx hy hc
  go_enter Tryz.func156, Tryz.ntmps156
  go_wp2_with fail
  go_ret2
  exact H.out
theorem subE (x y b : Int) (hx : 0 ≤ x ∧ x < 18446744073709551616) (hy : 0 ≤ y ∧ y < 18446744073709551616) (hb : 0 ≤ b ∧ b ≤ 1) (w : World) :
    Calls Tryz.prog 181 #[.int .u64 x, .int .u64 y, .int .u64 b] w fun e w' => SubE x y b w e w' := by
  have h := sub64 x y b hx.1 hy.1 hy.2 hb.1 hb.2
  have H : Hid (SubE x y b w (.returned (.tuple #[.int .u64 ((x - y - b) % 18446744073709551616), .int .u64 (bor x y b)])) w) := Lib.hid (by
    unfold bor
    split
    · exact ⟨_, _, rfl, rfl, by omega, by omega, by omega, by omega, by omega⟩
    · exact ⟨_, _, rfl, rfl, by omega, by omega, by omega, by omega, by omega⟩)
  clear hx hy hb
  go_enter Tryz.func181, Tryz.ntmps181
  go_wp2_with fail
  go_ret2
  exact H.out
theorem nlz_ten (w : World) : Calls Tryz.prog 140 #[.int .u64 10000000000000000000] w fun e w' => e = .returned (.int .u64 0) ∧ w = w' := by
  have h : Hid (Calls Tryz.prog 176 #[.int .u64 10000000000000000000] w fun e w' => e = .returned (.int .i64 0) ∧ w' = w) := Lib.hid (Tryz.bits_LeadingZeros 10000000000000000000 w (by decide) (by decide))
  go_enter Tryz.func140, Tryz.ntmps140
  go_wp2_with fail
  refine h.out.mono ?_
  rintro e w' ⟨rfl, rfl⟩
  go_wp2_with fail
  go_ret
  exact ⟨rfl, rfl⟩

theorem ww_core (x1 x0 t lo : Int) (h1 : 0 ≤ x1) (h2 : x1 < 10000000000000000000) (h3 : 0 ≤ x0) (h4 : x0 < 18446744073709551616) (l0 : 0 ≤ lo) (l1 : lo < 18446744073709551616)
    (ht : 15581492618384294730 * x1 + x1 * 18446744073709551616 + x0 = t * 18446744073709551616 + lo) :
    0 ≤ x1 * 18446744073709551616 + x0 - 10000000000000000000 * t ∧ x1 * 18446744073709551616 + x0 - 10000000000000000000 * t < 28446744073709551616 ∧ 0 ≤ t := by
  refine ⟨?_, ?_, by omega⟩
  · omega
  · omega
theorem ww_end (V q r : Int) (h0 : 0 ≤ r) (h1 : r < 10000000000000000000) (h : V = 10000000000000000000 * q + r) : q = V / 10000000000000000000 ∧ r = V % 10000000000000000000 := by omega
theorem wrapu {n : Int} (h0 : 0 ≤ n) (h1 : n < 18446744073709551616) : IntKind.u64.wrap n = n := by rw [IntKind.wrap_u64]; omega
theorem wrapu_neg {n : Int} (h0 : -18446744073709551616 ≤ n) (h1 : n < 0) : IntKind.u64.wrap n = n + 18446744073709551616 := by rw [IntKind.wrap_u64]; omega

/-- the quotient and the rest -/
def WWOut (V : Int) (w : World) (e : Ending) (w' : World) : Prop := e = .returned (.tuple #[.int .u64 (V / 10000000000000000000), .int .u64 (V % 10000000000000000000)]) ∧ w = w'

set_option maxRecDepth 100000 in
set_option maxHeartbeats 4000000 in
theorem divWW_c (x1 x0 V : Int) (hV : V = x1 * 18446744073709551616 + x0) (h1 : 0 ≤ x1 ∧ x1 < 10000000000000000000) (h0 : 0 ≤ x0 ∧ x0 < 18446744073709551616) (w : World) :
    Calls Tryz.prog 147 #[.int .u64 x1, .int .u64 x0, .int .u64 10000000000000000000, .int .u64 15581492618384294730] w fun e w' => WWOut V w e w' := by
  have HVE := Lib.hid hV
  have H1 := Lib.hid h1
  have H0 := Lib.hid h0
  clear h1 h0 hV
  go_enter Tryz.func147, Tryz.ntmps147
  go_wp2_with fail
  refine (nlz_ten w).mono ?_
  rintro e w' ⟨rfl, rfl⟩
  go_wp2_with fail
  refine (mulE 15581492618384294730 x1 (by decide) (by have := H1.out; omega) w).mono ?_
  rintro e w' ⟨hi, lo, rfl, rfl, hm, hl0, hl1, hh0⟩
  have HM := Lib.hid hm
  have HL := Lib.hid (And.intro hl0 hl1)
  have HH : Hid (0 ≤ hi ∧ hi < 18446744073709551616) := Lib.hid (by have := H1.out; omega)
  clear hm hl0 hl1 hh0
  go_wp2_with fail
  refine (addE lo x0 0 HL.out H0.out (by decide) w).mono ?_
  rintro e w' ⟨s, c, rfl, rfl, ha, hs0, hs1, hc0, hc1⟩
  have HA := Lib.hid ha
  have HS := Lib.hid (And.intro hs0 hs1)
  have HC := Lib.hid (And.intro hc0 hc1)
  clear ha hs0 hs1 hc0 hc1
  go_wp2_with fail
  refine (addE hi x1 c HH.out (by have := H1.out; omega) HC.out w).mono ?_
  rintro e w' ⟨t, c2, rfl, rfl, ha, hs0, hs1, hc0, hc1⟩
  have key : 0 ≤ x1 * 18446744073709551616 + x0 - 10000000000000000000 * t ∧ x1 * 18446744073709551616 + x0 - 10000000000000000000 * t < 28446744073709551616 ∧ 0 ≤ t := by
    have a1 := H1.out
    have a0 := H0.out
    have am := HM.out
    have aa := HA.out
    have aS := HS.out
    have e0 : c2 = 0 := by omega
    subst e0
    exact ww_core x1 x0 t s a1.1 a1.2 a0.1 a0.2 aS.1 aS.2 (by omega)
  have KEY := Lib.hid key
  have HT : Hid (0 ≤ t ∧ t < 18446744073709551616) := Lib.hid ⟨hs0, hs1⟩
  clear ha hs0 hs1 hc0 hc1 key HM HL HH HA HS HC
  go_wp2_with fail
  refine (mulE 10000000000000000000 t (by decide) HT.out w).mono ?_
  rintro e w' ⟨d1, d0, rfl, rfl, hm, hl0, hl1, hh0⟩
  have HM := Lib.hid hm
  have HL := Lib.hid (And.intro hl0 hl1)
  have HH : Hid (0 ≤ d1 ∧ d1 < 18446744073709551616) := Lib.hid (by have := HT.out; omega)
  clear hm hl0 hl1 hh0
  go_wp2_with fail
  refine (subE x0 d0 0 H0.out HL.out (by decide) w).mono ?_
  rintro e w' ⟨r0, b, rfl, rfl, ha, hs0, hs1, hc0, hc1⟩
  have HA := Lib.hid ha
  have HS := Lib.hid (And.intro hs0 hs1)
  have HC := Lib.hid (And.intro hc0 hc1)
  clear ha hs0 hs1 hc0 hc1
  go_wp2_with fail
  refine (subE x1 d1 b (by have := H1.out; omega) HH.out HC.out w).mono ?_
  rintro e w' ⟨r1, b2, rfl, rfl, ha, hs0, hs1, hc0, hc1⟩
  have key : x1 * 18446744073709551616 + x0 - 10000000000000000000 * t = r1 * 18446744073709551616 + r0 ∧ (r1 = 0 ∨ r1 = 1) := by
    have am := HM.out
    have aa := HA.out
    have aS := HS.out
    have ak := KEY.out
    have a1 := H1.out
    have a0 := H0.out
    have ah := HH.out
    have al := HL.out
    have ac := HC.out
    omega
  have K2 := Lib.hid key.1
  have hr := key.2
  have K3 : Hid (0 ≤ r0 ∧ r0 < 18446744073709551616) := Lib.hid HS.out
  have K4 : Hid (0 ≤ t ∧ t < 18446744073709551616) := Lib.hid HT.out
  have HV : Hid (0 ≤ V ∧ V < 184467440737095516160000000000000000000) := Lib.hid (by have a1 := H1.out; have a0 := H0.out; have := HVE.out; omega)
  rw [← HVE.out] at K2 KEY
  clear ha hs0 hs1 hc0 hc1 key HM HL HH HA HS HC HT
  have fin : ∀ (q r : Int), V = 10000000000000000000 * q + r → 0 ≤ r → r < 10000000000000000000 → q = V / 10000000000000000000 ∧ r = V % 10000000000000000000 ∧ 0 ≤ q ∧ q < 18446744073709551616 := by
    intro q r h hr0 hr1
    have := HV.out
    exact ⟨by omega, by omega, by omega, by omega⟩
  have FIN := Lib.hid fin
  clear fin
  rcases hr with rfl | rfl
  · have hw1 := wrapu K3.out.1 K3.out.2
    by_cases hge : 10000000000000000000 ≤ r0
    · have hd : decide (10000000000000000000 ≤ r0) = true := decide_eq_true hge
      have E := FIN.out (t + 1) (r0 - 10000000000000000000) (by have := K2.out; omega) (by omega) (by have := K3.out; omega)
      have hw2 : IntKind.u64.wrap (r0 - 10000000000000000000) = r0 - 10000000000000000000 := wrapu (by omega) (by have := K3.out; omega)
      have hw3 : IntKind.u64.wrap (t + 1) = t + 1 := wrapu E.2.2.1 E.2.2.2
      have HE := Lib.hid E
      clear hge E
      go_wp2_with fail
      go_ret2
      exact ⟨by rw [← HE.out.1, ← HE.out.2.1]; rfl, rfl⟩
    · have hd : decide (10000000000000000000 ≤ r0) = false := decide_eq_false hge
      have E := FIN.out t r0 (by have := K2.out; omega) (by have := K3.out; omega) (by omega)
      have HE := Lib.hid E
      clear hge E
      go_wp2_with fail
      go_ret2
      exact ⟨by rw [← HE.out.1, ← HE.out.2.1]; rfl, rfl⟩
  · have hlt : r0 < 10000000000000000000 := by have := K2.out; have := KEY.out; omega
    have hw0 : IntKind.u64.wrap (r0 - 10000000000000000000) = r0 - 10000000000000000000 + 18446744073709551616 := wrapu_neg (by have := K3.out; omega) (by omega)
    obtain ⟨s0, hs0⟩ : ∃ s0, s0 = r0 - 10000000000000000000 + 18446744073709551616 := ⟨_, rfl⟩
    rw [← hs0] at hw0
    by_cases hge : 10000000000000000000 ≤ s0
    · have hd : decide (10000000000000000000 ≤ s0) = true := decide_eq_true hge
      have E := FIN.out (t + 1 + 1) (s0 - 10000000000000000000) (by have := K2.out; omega) (by omega) (by have := K3.out; omega)
      have hw2 : IntKind.u64.wrap (s0 - 10000000000000000000) = s0 - 10000000000000000000 := wrapu (by omega) (by have := K3.out; omega)
      have hw3 : IntKind.u64.wrap (t + 1) = t + 1 := wrapu (by have := K4.out; omega) (by have := E.2.2.2; omega)
      have hw4 : IntKind.u64.wrap (t + 1 + 1) = t + 1 + 1 := wrapu E.2.2.1 E.2.2.2
      have hw5 : IntKind.u64.wrap s0 = s0 := wrapu (by omega) (by have := K3.out; omega)
      have HE := Lib.hid E
      clear hge E hs0 hlt
      go_wp2_with fail
      go_ret2
      exact ⟨by rw [← HE.out.1, ← HE.out.2.1]; rfl, rfl⟩
    · have hd : decide (10000000000000000000 ≤ s0) = false := decide_eq_false hge
      have E := FIN.out (t + 1) s0 (by have := K2.out; omega) (by have := K3.out; omega) (by omega)
      have hw3 : IntKind.u64.wrap (t + 1) = t + 1 := wrapu E.2.2.1 E.2.2.2
      have hw5 : IntKind.u64.wrap s0 = s0 := wrapu (by have := K3.out; omega) (by omega)
      have HE := Lib.hid E
      clear hge E hs0 hlt
      go_wp2_with fail
      go_ret2
      exact ⟨by rw [← HE.out.1, ← HE.out.2.1]; rfl, rfl⟩
end Go.Proofs.YtdfcomilhjoooaaGreatDoor.Div
