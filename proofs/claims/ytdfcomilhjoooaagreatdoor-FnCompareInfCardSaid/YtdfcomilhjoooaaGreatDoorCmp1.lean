/- Contracts of the signs and of Decimal.Cmp where at least one of the two is infinite. -/
import Derived.Test.YtdfcomilhjoooaaGreatDoorBase7
namespace Go.Proofs.YtdfcomilhjoooaaGreatDoor.Base
open Go.RowKit Go.Proofs.YtdfcomilhjoooaaGreatDoorW.PrintWords

/-- a Decimal at block D: its form, its sign, how many words it has -/
def DecAt (w : World) (D : Nat) (f : Int) (neg : Bool) (m : Nat) : Prop :=
  ∃ ex A c, w.heap[D]? = some (.cells #[.int .i8 f, .bool neg, .int .i32 ex, .bool false, .slice A m c, .bool false] 57 (0, 0))
theorem DecAt.below {w w' : World} {D : Nat} {f : Int} {neg : Bool} {m : Nat} (h : DecAt w D f neg m) (hb : Below w.heap.size w w') : DecAt w' D f neg m := by
  obtain ⟨ex, A, c, hh⟩ := h
  exact ⟨ex, A, c, blk_below hh hb⟩
/-- its sign -/
def sg (f : Int) (neg : Bool) (m : Nat) : Int := if f = 0 ∧ m = 0 then 0 else if neg then -1 else 1

theorem isign (D m : Nat) (A : Option Addr) (c : Nat) (w : World) (h3 : w.cell? ⟨D, 3, none⟩ = some (.bool false)) (h4 : w.cell? ⟨D, 4, none⟩ = some (.slice A m c)) :
    Calls Tryz.prog 39 #[.pointer (some ⟨D, 3, none⟩)] w fun e w' => e = .returned (.int .i64 (if m = 0 then 0 else 1)) ∧ w = w' := by
  by_cases hm : m = 0
  · subst hm
    go_enter Tryz.func39, Tryz.ntmps39
    go_wp2_with fail
    go_ret
    exact ⟨rfl, rfl⟩
  · have hm' : ((m : Int) == 0) = false := by simpa using hm
    rw [if_neg hm]
    clear hm
    go_enter Tryz.func39, Tryz.ntmps39
    go_wp2_with fail
    go_ret
    exact ⟨rfl, rfl⟩
theorem bsign (D m : Nat) (A : Option Addr) (c : Nat) (w : World) (h3 : w.cell? ⟨D, 3, none⟩ = some (.bool false)) (h4 : w.cell? ⟨D, 4, none⟩ = some (.slice A m c)) (h5 : w.cell? ⟨D, 5, none⟩ = some (.bool false)) :
    Calls Tryz.prog 38 #[.pointer (some ⟨D, 3, none⟩)] w fun e w' => e = .returned (.int .i64 (if m = 0 then 0 else 1)) ∧ w = w' := by
  have C := Lib.hid (isign D m A c w h3 h4)
  generalize (if m = 0 then (0 : Int) else 1) = s at C ⊢
  go_enter Tryz.func38, Tryz.ntmps38
  go_wp2_with fail
  refine C.out.mono ?_; rintro e w1 ⟨rfl, rfl⟩
  go_wp2_with fail
  go_ret
  exact ⟨rfl, rfl⟩
theorem sign_any (D : Nat) (f : Int) (hf : f = 0 ∨ f = 1) (neg : Bool) (m : Nat) (w : World) (hd : DecAt w D f neg m) :
    Calls Tryz.prog 25 #[.pointer (some ⟨D, 0, none⟩)] w fun e w' => e = .returned (.int .i64 (sg f neg m)) ∧ w = w' := by
  obtain ⟨ex, A, c, hh⟩ := hd
  have c0 : w.cell? ⟨D, 0, none⟩ = some (.int .i8 f) := blk_cell hh 0
  have c1 : w.cell? ⟨D, 1, none⟩ = some (.bool neg) := blk_cell hh 1
  have C := Lib.hid (bsign D m A c w (blk_cell hh 3) (blk_cell hh 4) (blk_cell hh 5))
  clear hh
  rcases hf with rfl | rfl
  · by_cases hm : m = 0
    · subst hm
      go_enter Tryz.func25, Tryz.ntmps25
      go_wp2_with fail
      refine C.out.mono ?_; rintro e w1 ⟨rfl, rfl⟩
      go_wp2_with fail
      go_ret
      exact ⟨rfl, rfl⟩
    · have hs : sg 0 neg m = if neg then -1 else 1 := by simp [sg, hm]
      rw [hs]
      rw [if_neg hm] at C
      clear hm hs
      cases neg
      · go_enter Tryz.func25, Tryz.ntmps25
        go_wp2_with fail
        refine C.out.mono ?_; rintro e w1 ⟨rfl, rfl⟩
        go_wp2_with fail
        go_ret
        exact ⟨rfl, rfl⟩
      · go_enter Tryz.func25, Tryz.ntmps25
        go_wp2_with fail
        refine C.out.mono ?_; rintro e w1 ⟨rfl, rfl⟩
        go_wp2_with fail
        go_ret
        exact ⟨rfl, rfl⟩
  · clear C
    cases neg
    · go_enter Tryz.func25, Tryz.ntmps25
      go_wp2_with fail
      go_ret
      exact ⟨rfl, rfl⟩
    · go_enter Tryz.func25, Tryz.ntmps25
      go_wp2_with fail
      go_ret
      exact ⟨rfl, rfl⟩

/-- what Cmp tells by the signs, where one of the two is infinite -/
def cmpv (s1 s2 : Int) (f1 f2 : Int) : Int :=
  if s1 < s2 then -1 else if s2 < s1 then 1 else if f1 = 1 then (if f2 = 1 then 0 else if s1 = -1 then -1 else 1) else (if s1 = -1 then 1 else -1)

set_option maxRecDepth 100000 in
set_option maxHeartbeats 8000000 in
theorem cmp_core (D1 D2 : Nat) (s1 s2 f1 f2 : Int) (h : (s1 = -1 ∧ (s2 = -1 ∨ s2 = 0 ∨ s2 = 1)) ∨ (s1 = 1 ∧ (s2 = -1 ∨ s2 = 0 ∨ s2 = 1)) ∨ (s1 = 0 ∧ (s2 = -1 ∨ s2 = 1)))
    (hf : (f1 = 1 ∧ (f2 = 0 ∨ f2 = 1)) ∨ (f1 = 0 ∧ f2 = 1)) (w : World)
    (C1 : Hid (Calls Tryz.prog 25 #[.pointer (some ⟨D1, 0, none⟩)] w fun e w' => e = .returned (.int .i64 s1) ∧ w = w'))
    (C2 : Hid (Calls Tryz.prog 25 #[.pointer (some ⟨D2, 0, none⟩)] w fun e w' => e = .returned (.int .i64 s2) ∧ w = w'))
    (g1 : w.cell? ⟨D1, 0, none⟩ = some (.int .i8 f1)) (g2 : w.cell? ⟨D2, 0, none⟩ = some (.int .i8 f2)) :
    Calls Tryz.prog 16 #[.pointer (some ⟨D1, 0, none⟩), .pointer (some ⟨D2, 0, none⟩)] w fun e w' => e = .returned (.int .i64 (cmpv s1 s2 f1 f2)) ∧ w = w' := by
  rcases h with ⟨rfl, rfl | rfl | rfl⟩ | ⟨rfl, rfl | rfl | rfl⟩ | ⟨rfl, rfl | rfl⟩
  all_goals rcases hf with ⟨rfl, rfl | rfl⟩ | ⟨rfl, rfl⟩
  all_goals
    go_enter Tryz.func16, Tryz.ntmps16
    go_wp2_with fail
    refine C1.out.mono ?_; rintro e w1 ⟨rfl, rfl⟩
    go_wp2_with fail
    refine C2.out.mono ?_; rintro e w1 ⟨rfl, rfl⟩
    go_wp2_with fail
    go_ret
    exact ⟨rfl, rfl⟩
end Go.Proofs.YtdfcomilhjoooaaGreatDoor.Base
