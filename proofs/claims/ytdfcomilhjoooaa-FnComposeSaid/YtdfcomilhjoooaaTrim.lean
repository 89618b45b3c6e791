/- spec.trim on a row: the row cut short, the same block. -/
import Derived.Test.YtdfcomilhjoooaaSpec2
namespace Go.Proofs.Ytdfcomilhjoooaa.Spec2
open Go.RowKit Go.Proofs.YtdfcomilhjoooaaW.PrintWords Go.Proofs.YtdfcomilhjoooaaW.PrintLast Go.Proofs.YtdfcomilhjoooaaW.PrintMore Go.Proofs.Ytdfcomilhjoooaa.PFnCompose Go.Proofs.Ytdfcomilhjoooaa.Base Go.Proofs.Ytdfcomilhjoooaa.Num
open Go.Proofs.Ytdfcomilhjoooaa.Spec (nlTo_take)

theorem w64b {n : Int} (h0 : 0 ≤ n) (h1 : n < 9223372036854775808) : wrap64 n = n := (i64_w n).symm.trans (wrapI h0 h1)
theorem trim_isb : ∀ (k : Nat) (l r : List Int), l.length < 9223372036854775808 → spec_trim.l0 k l = some r → r = l.take (nlTo l l.length) := by
  intro k
  induction k with
  | zero => intro l r _ h; cases h
  | succ k ih =>
    intro l r hl h
    rcases Nat.eq_zero_or_pos l.length with h0 | h0
    · obtain rfl : l = [] := List.eq_nil_of_length_eq_zero h0
      cases h; rfl
    · obtain ⟨n, hn⟩ : ∃ n, l.length = n + 1 := ⟨l.length - 1, by omega⟩
      have e : wrap64 ((l.length : Int) - 1) = n := by rw [hn, w64b (by omega) (by omega)]; omega
      simp only [spec_trim.l0, e] at h
      rw [if_pos (by omega), if_pos (by omega), if_pos (by omega)] at h
      have er : rd l (n : Int) = l.getD n 0 := by simp [rd]
      rw [er] at h
      by_cases g0 : l.getD n 0 = 0
      · rw [if_pos g0, if_pos (by omega), show ((n : Int)).toNat = n by omega] at h
        have hlt : (l.take n).length = n := by simp; omega
        have := ih (l.take n) r (by omega) h
        rw [hlt, nlTo_take l n n (Nat.le_refl _), List.take_take, Nat.min_eq_left (nlTo_le l n)] at this
        rw [this, hn, nlTo, if_pos g0]
      · rw [if_neg g0] at h
        cases h
        rw [hn, nlTo, if_neg g0, ← hn, List.take_length]

def lenOf : Value → Nat
  | .slice _ n _ => n
  | _ => 0

set_option maxHeartbeats 1000000 in
theorem trim_any (A : Option Addr) (c : Nat) (l : List Int) (hl : l.length < 9223372036854775808) (hc : l.length ≤ c) (w : World) (hr : ReadsInt w .i64 A l.length l) :
    Calls Try.prog 15 #[.slice A l.length c] w fun e w' => e = .returned (.slice A (nlTo l l.length) c) ∧ w = w' := by
  rcases Nat.eq_zero_or_pos l.length with h0 | h0
  · obtain rfl : l = [] := List.eq_nil_of_length_eq_zero h0
    clear hr hl hc h0
    go_enter Try.func15, Try.ntmps15
    go_wp2_with fail
    refine wp_loop_rounds 1 ?_; rw [rounds_succ]
    go_wp2_with fail
    go_ret
    exact ⟨rfl, rfl⟩
  · obtain ⟨ad, rfl, hcl⟩ := hr.2.2 h0
    have HCL := Lib.hid hcl
    obtain ⟨n, hn⟩ : ∃ n, n = l.length := ⟨_, rfl⟩
    rw [← hn] at hl hc ⊢
    have HN := Lib.hid hn
    clear hr hcl hn h0
    go_enter Try.func15, Try.ntmps15
    go_wp2_with fail
    go_loop [0] (fun v0 => ∃ k : Nat, k ≤ n ∧ v0 = .slice (some ad) k c ∧ nlTo l k = nlTo l n) (fun v0 => lenOf v0)
    case atStart => exact ⟨n, Nat.le_refl _, rfl, rfl⟩
    case round =>
      obtain ⟨k, hk, rfl, he⟩ := hrel
      have HE := Lib.hid he
      clear he
      match k, hk, HE with
      | 0, hk, HE =>
        go_wp2_with fail
        go_ret
        have he := HE.out
        simp only [nlTo] at he
        exact ⟨by rw [← he]; rfl, rfl⟩
      | k + 1, hk, HE =>
        have hcell : w.cell? (ad.add k) = some (.int .i64 (l.getD k 0)) := HCL.out k (by rw [← HN.out]; omega)
        obtain ⟨x, hx⟩ : ∃ x, x = l.getD k 0 := ⟨_, rfl⟩
        rw [← hx] at hcell
        have HX := Lib.hid hx
        clear hx
        by_cases h0 : x = 0
        · subst h0
          go_wp2_with fail
          go_round
          case rel => exact ⟨k, by omega, by rfl, by have h := HE.out; rw [nlTo, if_pos HX.out.symm] at h; exact h⟩
          case measure => simp [lenOf]
        · have hb : (x == 0) = false := by simpa using h0
          go_wp2_with fail
          go_ret
          have he := HE.out
          rw [nlTo, if_neg (by rw [← HX.out]; exact h0)] at he
          exact ⟨by rw [← he]; rfl, rfl⟩
theorem trim_own (k : Nat) (A : Option Addr) (c : Nat) (l r : List Int) (e B : Nat) (ok : Nat → Prop) (w : World) (hs : Kd.R (Kd.int .i64) e w B ok (.slice A l.length c) l) (h : spec_trim.f k l = some r) :
    Calls Try.prog 15 #[.slice A l.length c] w fun e' w' => ∃ v : Value, e' = .returned v ∧ Kd.R (Kd.int .i64) e w' B ok v r ∧ Below w.heap.size w w' := by
  have h2 := (Kd.R_reads' hs).2
  have hri : ReadsInt w .i64 A l.length l := readsInt_of.2 (Kd.reads_of_C h2.2)
  have hl : l.length < 9223372036854775808 := by have := hri.2.1; omega
  have hrr := trim_isb k l r hl h
  refine (trim_any A c l hl h2.1 w hri).mono ?_
  rintro e' w' ⟨rfl, rfl⟩
  have hl := nlTo_le l l.length
  refine ⟨_, rfl, ?_, Below.refl _ _⟩
  rw [hrr]
  exact Kd.R_take hs hl
end Go.Proofs.Ytdfcomilhjoooaa.Spec2
