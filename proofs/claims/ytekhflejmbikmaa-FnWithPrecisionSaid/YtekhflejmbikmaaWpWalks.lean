/- The walks of FnWithPrecision: another precision and nothing else, for every precision, mode and new precision. No condition. -/
import Derived.Test.YtekhflejmbikmaaProg
import Derived.WalkKit
import Derived.WalkLawsBesides
import Derived.WalkSpells
import Derived.Handy
import Derived.StillTailTactics
import Derived.Deep.Draws
import Derived.BigRegion
namespace Go.Proofs.Ytekhflejmbikmaa.WP
open Go.RowKit

def rnd : Nat → ByteArray
  | 0 => ⟨#[100, 111, 119, 110]⟩
  | 2 => ⟨#[104, 97, 108, 102, 95, 101, 118, 101, 110]⟩
  | 3 => ⟨#[99, 101, 105, 108, 105, 110, 103]⟩
  | 4 => ⟨#[102, 108, 111, 111, 114]⟩
  | 5 => ⟨#[104, 97, 108, 102, 95, 100, 111, 119, 110]⟩
  | 6 => ⟨#[117, 112]⟩
  | 7 => ⟨#[48, 53, 117, 112]⟩
  | _ => ⟨#[104, 97, 108, 102, 95, 117, 112]⟩

theorem rnd_any (m : Nat) (hm : m < 8) (w : World) :
    Calls Try.prog 26 #[.int .i64 m] w fun e w' => e = .returned (.string (rnd m)) ∧ w = w' := by
  match m, hm with
  | 0, _ | 1, _ | 2, _ | 3, _ | 4, _ | 5, _ | 6, _ | 7, _ => 
    go_enter Try.func26, Try.ntmps26
    go_wp2
    go_ret
    exact ⟨rfl, rfl⟩

theorem region_tail {P : Program} {id : Nat} {Q : Exit → Act → World → Prop} {a : Act} {w : World} {l : List Oper} (n : Nat) (hm : P.follows .mixedOrders = true) (hB : Region.lexTailB .any l.toArray n = true)
    (h : wpStill P l.toArray w.drew (fun a' => wpList P l.toArray Q (l.drop n) a' w.drew) (l.take n) a) : (Code.region id l.toArray true).wp P Q a w :=
  wp_region_still_tail n hm hB h


theorem region_quiet {P : Program} {id : Nat} {Q : Exit → Act → World → Prop} {a : Act} {w : World} {l : List Oper} (hm : P.follows .mixedOrders = true) (hB : Region.lexB .any l.toArray = true)
    (h : wpStill P l.toArray w.drew (fun a' => Q .normal a' w.drew) l a) : (Code.region id l.toArray true).wp P Q a w :=
  wp_region_still_lit hm hB h

theorem rnd_ne : ∀ m, m < 8 → ∀ k, k < 8 → m ≠ k → ((rnd m).toList == (rnd k).toList) = false := by decide +kernel

theorem setCell_drewN {w : World} {n : Nat} (a : Addr) (v : Value) : (w.drewN n).setCell a v = (w.setCell a v).drewN n := rfl
attribute [local go_sem] setCell_drewN

/-- the mode that has been found behind k rounds -/
def md (m k : Nat) : Int := if m < k then m else 0

noncomputable abbrev A1 (p m : Nat) : Obj := .cells #[.int .u64 p, .int .i64 100000, .int .i64 (-100000), .int .i64 m] 28
noncomputable abbrev A2 (p m : Nat) : Obj := .cells #[.int .u32 p, .int .i32 100000, .int .i32 (-100000), .int .u32 0, .string (rnd m)] 44

set_option maxHeartbeats 400000 in
theorem context_any (p m : Nat) (hm : m < 8) (hp : p ≤ 4294967295) (w : World) :
    Calls Try.prog 24 #[.agg #[.int .u64 p, .int .i64 100000, .int .i64 (-100000), .int .i64 m]] w fun e w' =>
      e = .returned (.pointer (some ⟨w.heap.size + 1, 0, none⟩)) ∧ ((w.alloc (A1 p m)).alloc (A2 p m)).drew = w' := by
  go_enter Try.func24, Try.ntmps24
  go_wp2_with fail
  refine region_tail 13 (by kernel_rfl) (by kernel_rfl) ?_
  simp only [List.take_succ_cons, List.take_zero, List.drop_succ_cons, List.drop_zero]
  repeat still_step
  still_call ((rnd_any m hm _).mono fun e w' h => ⟨h.1, h.2.symm⟩)
  repeat still_step
  refine wpStill_nil ?_
  go_wp2
  go_ret
  exact ⟨rfl, rfl⟩

set_option maxHeartbeats 400000 in
theorem with_any (p q m b : Nat) (w : World) (hb : b < w.heap.size)
    (h0 : w.cell? ⟨b, 0, none⟩ = some (.int .u32 p)) (h1 : w.cell? ⟨b, 1, none⟩ = some (.int .i32 100000)) (h2 : w.cell? ⟨b, 2, none⟩ = some (.int .i32 (-100000)))
    (h3 : w.cell? ⟨b, 3, none⟩ = some (.int .u32 0)) (h4 : w.cell? ⟨b, 4, none⟩ = some (.string (rnd m))) :
    Calls Try.prog 25 #[.pointer (some ⟨b, 0, none⟩), .int .u32 q] w fun e w' =>
      e = .returned (.pointer (some ⟨w.heap.size, 0, none⟩)) ∧ (w.alloc (A2 q m)) = w' := by
  go_enter Try.func25, Try.ntmps25
  go_wp2
  go_ret
  exact ⟨rfl, rfl⟩

set_option maxHeartbeats 1000000 in
theorem iwith_any (p q m : Nat) (hm : m < 8) (hp : p ≤ 4294967295) (hq : q ≤ 4294967295) (w : World) :
    Calls Try.prog 8 #[.agg #[.int .u64 p, .int .i64 100000, .int .i64 (-100000), .int .i64 m], .int .u64 q] w fun e w' =>
      e = .returned (.agg #[.int .u64 q, .int .i64 100000, .int .i64 (-100000), .int .i64 m]) ∧ Below w.heap.size w w' := by
  go_enter Try.func8, Try.ntmps8
  go_wp2_with fail
  refine (context_any p m hm hp _).mono ?_; rintro e w1 ⟨rfl, rfl⟩
  go_wp2_with fail
  refine (with_any p q m _ _ (by simp) (by go_cell) (by go_cell) (by go_cell) (by go_cell) (by go_cell)).mono ?_; rintro e w2 ⟨rfl, rfl⟩
  go_wp2_with fail
  go_region
  go_wp2_with fail
  go_loopw [29] (fun v29 wr => ∃ (k n : Nat), k ≤ 8 ∧ v29 = .int .i64 k ∧ wr = ((((((w.alloc (A1 p m)).alloc (.cells #[.int .u64 0, .int .i64 0, .int .i64 0, .int .i64 0] 28)).alloc (A1 p m)).alloc (A2 p m)).alloc (A2 q m)).alloc (.cells #[.int .u64 q, .int .i64 100000, .int .i64 (-100000), .int .i64 (md m k)] 28)).drewN n)
    (fun v29 _ => 8 - (intOf v29).toNat)
  case atStart => exact ⟨0, 2, by omega, rfl, rfl⟩
  case round =>
    obtain ⟨k, n, hk, rfl, rfl⟩ := hrel
    by_cases hk8 : k < 8
    · go_wp2_with fail
      refine region_quiet (by kernel_rfl) (by kernel_rfl) ?_
      repeat still_step
      still_call ((rnd_any k hk8 _).mono fun e w' h => ⟨h.1, h.2.symm⟩)
      repeat still_step
      refine wpStill_nil ?_
      by_cases hmk : m = k
      · subst hmk
        have hs : ((rnd m).toList == (rnd m).toList) = true := by simp
        go_wp2_with fail
        · go_roundw
          case rel =>
            refine ⟨m + 1, n + 1, by omega, by go_num, ?_⟩
            rw [show md m (m + 1) = (m : Int) by unfold md; rw [if_pos (by omega)]]
          case measure => simp [intOf]; omega
        · exact absurd (‹((rnd m).toList == (rnd m).toList) = false›.symm.trans hs) (by simp)
      · have hs := rnd_ne m hm k hk8 hmk
        go_wp2_with fail
        · exact absurd (‹((rnd m).toList == (rnd k).toList) = true›.symm.trans hs) (by simp)
        · go_roundw
          case rel =>
            refine ⟨k + 1, n + 1, by omega, by go_num, ?_⟩
            rw [show md m (k + 1) = md m k by unfold md; split <;> split <;> omega]
          case measure => simp [intOf]; omega
    · obtain rfl : k = 8 := by omega
      go_wp2_with fail
      go_returns
      refine ⟨by rw [show md m 8 = (m : Int) by unfold md; rw [if_pos hm]], ?_⟩
      exact below_drewN (by go_grown) n

theorem below_then1 {w w1 w2 : World} {o : Obj} (h : Below w.heap.size w w1) (k : Below (w1.alloc o).heap.size (w1.alloc o) w2) : Below w.heap.size w w2 :=
  (h.alloc h.size o).trans (k.mono (by have := h.size; simp; omega))

theorem wide_any (a m : Nat) (hm : m ≤ 255) (ha : a ≤ 255) (w : World) :
    Calls Try.prog 7 #[.int .u8 a, .int .u8 m] w fun e w' =>
      e = .returned (.agg #[.int .u64 ((1 + a % 60 : Nat) : Int), .int .i64 100000, .int .i64 (-100000), .int .i64 ((m % 8 : Nat) : Int)]) ∧ Below w.heap.size w w' := by
  go_enter Try.func7, Try.ntmps7
  go_wp2
  go_returns
  refine ⟨?_, by go_grown⟩
  simp

set_option maxHeartbeats 1000000 in
theorem law_walk (a m q : Nat) (hm : m ≤ 255) (ha : a ≤ 255) (hq : q ≤ 65535) (w : World) :
    Calls Try.prog 4 #[.int .u8 a, .int .u8 m, .int .u16 q] w fun e w' => e = .returned (.bool true) ∧ Below w.heap.size w w' := by
  go_enter Try.func4, Try.ntmps4
  go_wp2_with fail
  refine (wide_any a m hm ha _).mono ?_; rintro e w1 ⟨rfl, hb1⟩
  go_wp2_with fail
  refine (iwith_any (1 + a % 60) q (m % 8) (by omega) (by omega) (by omega) _).mono ?_; rintro e w2 ⟨rfl, hb2⟩
  have c1 : w2.cell? ⟨w1.heap.size, 1, none⟩ = some (.int .i64 100000) := (hb2.cell (p := ⟨w1.heap.size, 1, none⟩) (by simp)).trans (by go_cell)
  have c2 : w2.cell? ⟨w1.heap.size, 2, none⟩ = some (.int .i64 (-100000)) := (hb2.cell (p := ⟨w1.heap.size, 2, none⟩) (by simp)).trans (by go_cell)
  have c3 : w2.cell? ⟨w1.heap.size, 3, none⟩ = some (.int .i64 ((m : Int) % 8)) := (hb2.cell (p := ⟨w1.heap.size, 3, none⟩) (by simp)).trans (by go_cell)
  have hz : w1.heap.size < w2.heap.size := by have := hb2.size; simp at this; omega
  have hB : Below w.heap.size w w2 := (below_then1 hb1 hb2)
  clear hb1 hb2
  go_wp2_with fail
  go_returns
  refine ⟨by simp, ?_⟩
  exact hB.alloc hB.size _

end Go.Proofs.Ytekhflejmbikmaa.WP
