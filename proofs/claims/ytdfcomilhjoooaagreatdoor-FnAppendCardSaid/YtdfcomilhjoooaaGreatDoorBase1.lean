/- Contracts of nat.make, nat.set (into nil) and nat.norm: lengths up to a million. -/
import Derived.Test.YtdfcomilhjoooaaGreatDoorProg
import Derived.Test.YtdfcomilhjoooaaGreatDoorWMore
import Derived.WalkLawsBesides
import Derived.WalkSpells
import Derived.Handy
import Derived.StillTailTactics
import Derived.Deep.Draws
import Derived.Lib.Hide
import Derived.KernelRfl
import Derived.Laws.CopyOwn
import Derived.Laws.MakeOwn
namespace Go.Proofs.YtdfcomilhjoooaaGreatDoor.Base
open Go.RowKit Go.Proofs.YtdfcomilhjoooaaGreatDoorW.PrintWords

theorem infoW : (Tryz.prog.info? 74).map (fun i => (i.zero, i.size, i.bytes)) = some (some (.int .u64 0), 1, 8) := by kernel_rfl

theorem region_quiet {P : Program} {id : Nat} {Q : Exit → Act → World → Prop} {a : Act} {w : World} {l : List Oper} (hm : P.follows .mixedOrders = true) (hB : Region.lexB .any l.toArray = true)
    (h : wpStill P l.toArray w.drew (fun a' => Q .normal a' w.drew) l a) : (Code.region id l.toArray true).wp P Q a w :=
  wp_region_still_lit hm hB h
theorem region_tail {P : Program} {id : Nat} {Q : Exit → Act → World → Prop} {a : Act} {w : World} {l : List Oper} (n : Nat) (hm : P.follows .mixedOrders = true) (hB : Region.lexTailB .any l.toArray n = true)
    (h : wpStill P l.toArray w.drew (fun a' => wpList P l.toArray Q (l.drop n) a' w.drew) (l.take n) a) : (Code.region id l.toArray true).wp P Q a w :=
  wp_region_still_tail n hm hB h

theorem make_re (A : Option Addr) (m c n : Nat) (hn : n ≤ c) (hc : c ≤ 1000000) (hA : A = none → c = 0) (w : World) :
    Calls Tryz.prog 56 #[.slice A m c, .int .i64 n] w fun e w' => e = .returned (.slice A n c) ∧ w = w' := by
  cases A with
  | none =>
    obtain rfl := hA rfl
    obtain rfl : n = 0 := by omega
    go_enter Tryz.func56, Tryz.ntmps56
    go_wp2
    go_ret
    exact ⟨rfl, rfl⟩
  | some a =>
    clear hA
    go_enter Tryz.func56, Tryz.ntmps56
    go_wp2
    go_ret
    exact ⟨rfl, rfl⟩

theorem make_one (A : Option Addr) (m : Nat) (w : World) :
    Calls Tryz.prog 56 #[.slice A m 0, .int .i64 1] w fun e w' => e = .returned (.slice (some ⟨w.heap.size, 0, none⟩) 1 1) ∧ w.alloc (.cells #[.int .u64 0] 74) = w' := by
  have hmk : ∀ u : World, (Instr.makeSlice 51 (.int .i64 1) (.int .i64 1)).run Tryz.prog u = .ok (.slice (some ⟨u.heap.size, 0, none⟩) 1 1) (u.alloc (.cells #[.int .u64 0] 74)) := fun _ => by kernel_rfl
  go_enter Tryz.func56, Tryz.ntmps56
  go_wp2
  go_ret
  exact ⟨rfl, rfl⟩

theorem make_new (A : Option Addr) (m c n : Nat) (h2 : 2 ≤ n) (hn : n ≤ 1000000) (hc : c < n) (w : World) :
    Calls Tryz.prog 56 #[.slice A m c, .int .i64 n] w fun e w' =>
      e = .returned (.slice (some ⟨w.heap.size, 0, none⟩) n (n + 4)) ∧ w.alloc (.cells (madeCells #[.int .u64 0] (n + 4)) 74) = w' := by
  obtain ⟨i0, hi, hz0, hz1, hz2⟩ := info_parts infoW
  have hmk : ∀ u : World, (Instr.makeSlice 51 (.int .i64 (n : Int)) (.int .i64 ((n : Int) + 4))).run Tryz.prog u =
      .ok (.slice (some ⟨u.heap.size, 0, none⟩) n (n + 4)) (u.alloc (.cells (madeCells #[.int .u64 0] (n + 4)) 74)) := fun u => by
    have h := run_make (P := Tryz.prog) u 51 74 i0 (.int .u64 0) Tryz.underlying51 hi hz0 .i64 .i64 (n : Int) ((n : Int) + 4) (by omega) (by omega) (by rw [hz2]; omega) (by omega)
    have e : ((n : Int) + 4).toNat = n + 4 := by omega
    rw [e] at h
    simpa [hz1, Value.cells] using h
  clear hi hz0 hz1 hz2
  go_enter Tryz.func56, Tryz.ntmps56
  go_wp2
  go_ret
  exact ⟨rfl, rfl⟩

theorem nums_one (k : IntKind) (l : List Int) : ∀ v ∈ nums k l, v.oneCell' = true := by
  intro v hv
  simp only [nums, List.mem_map] at hv
  obtain ⟨x, _, rfl⟩ := hv
  rfl
theorem reads_cells {w : World} {k : IntKind} {A : Option Addr} {n : Nat} {l : List Int} (h : ReadsInt w k A n l) (hn : 0 < n) :
    ∃ ad, A = some ad ∧ ∀ j v, (nums k l)[j]? = some v → w.cell? (ad.add j) = some v := by
  obtain ⟨ad, e, hc⟩ := h.2.2 hn
  refine ⟨ad, e, fun j v hj => ?_⟩
  simp only [nums, List.getElem?_map, Option.map_eq_some_iff] at hj
  obtain ⟨x, hx, rfl⟩ := hj
  have hl : j < l.length := by
    rcases Nat.lt_or_ge j l.length with h | h
    · exact h
    · rw [List.getElem?_eq_none h] at hx; cases hx
  have := hc j (by have := h.1; omega)
  rw [this, List.getD_eq_getElem?_getD, hx]
  rfl
theorem made_len (z : Value) (n : Nat) : (madeCells #[z] n).toList.length = n := by
  rw [toList_madeCells_one]; simp
/-- a row that has been copied over its first cells is owned -/
theorem own_splice {w : World} {g cap n e : Nat} {cur cs : List Value} (hg : w.heap[g]? = some (.cells (splice cur 0 cs).toArray e (0, 0))) {B : Nat} (hB : B ≤ g) (hl : cs.length = n) (hn : n ≤ cap) (hm : cap ≤ maxLen) (hc : cur.length = cap) :
    w.ownsRow B e 1 (.slice (some ⟨g, 0, none⟩) n cap) n cs := by
  refine ⟨by omega, .inr ⟨g, cap, _, rfl, hB, hg, hn, hm, ?_, ?_⟩⟩
  · simp [splice]; omega
  · simp [splice, ← hl]

set_option maxHeartbeats 1000000 in
theorem set_nil (A : Option Addr) (c : Nat) (l : List Int) (hl : l.length ≤ 100000) (w : World) (hr : ReadsInt w .u64 A l.length l) :
    Calls Tryz.prog 44 #[.slice none 0 0, .slice A l.length c] w fun e w' => ∃ A' c', e = .returned (.slice A' l.length c') ∧ w'.ownsRow w.heap.size 74 1 (.slice A' l.length c') l.length (nums .u64 l) ∧ c' ≤ l.length + 4 ∧ (A' = none → c' = 0) ∧ Below w.heap.size w w' := by
  rcases Nat.lt_or_ge 1 l.length with h2 | h1
  · have hlt : 0 < l.length := by omega
    obtain ⟨ad, rfl, hcell⟩ := reads_cells hr hlt
    have HC := Lib.hid hcell
    have HL := Lib.hid (rfl : l.length = l.length)
    have HR := Lib.hid hr
    clear hcell hr
    have hn1 := nums_one .u64 l
    have HN1 := Lib.hid hn1
    clear hn1
    obtain ⟨n, hn⟩ : ∃ n, n = l.length := ⟨_, rfl⟩
    rw [← hn] at hl h2 hlt ⊢
    have HN := Lib.hid hn
    clear hn
    go_enter Tryz.func44, Tryz.ntmps44
    go_wp2_with fail
    refine (make_new none 0 0 n (by omega) (by omega) (by omega) _).mono ?_; rintro e w1 ⟨rfl, rfl⟩
    go_wp2_with (with_reducible refine wpList_copy_splice rfl (.tmp 9) (.tmp 10) 51 51 rfl 74 Tryz.underlying51 (by kernel_rfl) _ _ n (n + 4) n c rfl rfl w.heap.size 0 (madeCells #[.int .u64 0] (n + 4)).toList 74 ?hg (nums .u64 l) ?hn ?hpos ?hfit HN1.out w.heap.size w ?hb (Nat.le_refl _) ?next)
    case hg => simpa using blk_new w _
    case hn => simp [nums_length, ← HN.out]
    case hpos => intro _ j v hj; exact pw_cell_below (below_alloc (Below.refl _ _) _) (HC.out j v hj)
    case hfit => rw [made_len, nums_length, ← HN.out]; omega
    case hb => go_grown
    intro w2 hg2 hb2
    go_wp2_with fail
    go_ret
    exact ⟨_, _, rfl, own_splice hg2.out (Nat.le_refl _) (by rw [nums_length, ← HN.out]) (by omega) (by unfold maxLen; omega) (made_len _ _), Nat.le_refl _, (fun h => by cases h), hb2⟩
  · rcases Nat.eq_zero_or_pos l.length with h0 | h1'
    · obtain rfl : l = [] := List.eq_nil_of_length_eq_zero h0
      clear hr hl h1 h0
      go_enter Tryz.func44, Tryz.ntmps44
      go_wp2_with fail
      refine (make_re none 0 0 0 (Nat.le_refl _) (by omega) (fun _ => rfl) _).mono ?_; rintro e w1 ⟨rfl, rfl⟩
      go_wp2_with (with_reducible refine wpList_copy_nothing rfl (.tmp 9) (.tmp 10) 51 51 rfl 74 Tryz.underlying51 (by kernel_rfl) _ _ 0 0 0 c rfl rfl ?hn0 ?next0)
      case hn0 => rfl
      go_wp2_with fail
      go_ret
      exact ⟨_, _, rfl, own_nil _ _ _ _, by simp, fun _ => rfl, Below.refl _ _⟩
    · obtain ⟨x, rfl⟩ : ∃ x, l = [x] := List.length_eq_one_iff.1 (by omega)
      obtain ⟨ad, rfl, hcell⟩ := reads_cells hr h1'
      have HC := Lib.hid hcell
      clear hcell hr hl h1 h1'
      go_enter Tryz.func44, Tryz.ntmps44
      go_wp2_with fail
      refine (make_one none 0 _).mono ?_; rintro e w1 ⟨rfl, rfl⟩
      go_wp2_with (with_reducible refine wpList_copy_splice rfl (.tmp 9) (.tmp 10) 51 51 rfl 74 Tryz.underlying51 (by kernel_rfl) _ _ 1 1 1 c rfl rfl w.heap.size 0 [.int .u64 0] 74 ?hg1 [.int .u64 x] ?hn1 ?hpos1 ?hfit1 ?hone1 w.heap.size w ?hb1 (Nat.le_refl _) ?next1)
      case hn1 => rfl
      case hfit1 => exact Nat.le_refl _
      case hone1 => exact nums_one .u64 [x]
      case hg1 => simpa using blk_new w _
      case hpos1 => intro j v hj; exact pw_cell_below (below_alloc (Below.refl _ _) _) (HC.out j v hj)
      case hb1 => go_grown
      intro w2 hg2 hb2
      go_wp2_with fail
      go_ret
      exact ⟨_, _, rfl, own_splice hg2.out (Nat.le_refl _) rfl (by omega) (by unfold maxLen; omega) rfl, by simp, (fun h => by cases h), hb2⟩
end Go.Proofs.YtdfcomilhjoooaaGreatDoor.Base
