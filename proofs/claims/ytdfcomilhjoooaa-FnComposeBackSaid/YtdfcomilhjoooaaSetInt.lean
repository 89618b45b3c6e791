/- Contract of Int.SetBytes (at least one byte). -/
import Derived.Test.YtdfcomilhjoooaaSetBytes0
namespace Go.Proofs.Ytdfcomilhjoooaa.Be
open Go.RowKit Go.Proofs.YtdfcomilhjoooaaW.PrintWords Go.Proofs.Ytdfcomilhjoooaa.Base Go.Proofs.Ytdfcomilhjoooaa.Num

set_option maxRecDepth 100000 in
set_option maxHeartbeats 1000000 in
theorem intBytes (b1 o1 t1 : Nat) (c1 : Array Value) (zn : Bool) (A : Option Addr) (m cap : Nat) (ad : Addr) (cb : Nat) (b : List Int) (w : World) (P : Ending → World → Prop)
    (hb1 : w.heap[b1]? = some (.cells c1 t1 (0, 0))) (hz : isInt c1 o1 zn (.slice A m cap))
    (hs : Calls Try.prog 43 #[.slice A m cap, .slice (some ad) b.length cb] w P)
    (hP : ∀ e w1, P e w1 → ∃ A' n' c', e = .returned (.slice A' n' c') ∧ w1.heap[b1]? = some (.cells c1 t1 (0, 0))) :
    Calls Try.prog 35 #[.pointer (some ⟨b1, o1, none⟩), .slice (some ad) b.length cb] w fun e w' => ∃ w1 A' n' c', P (.returned (.slice A' n' c')) w1 ∧ e = .returned (.pointer (some ⟨b1, o1, none⟩)) ∧
      (w1.setCell ⟨b1, o1 + 1, none⟩ (.slice A' n' c')).setCell ⟨b1, o1, none⟩ (.bool false) = w' := by
  have X1 : w.cell? ⟨b1, o1 + 1, none⟩ = some (.slice A m cap) := (blk_cell hb1 (o1 + 1)).trans hz.2
  have HS := Lib.hid hs
  have HP := Lib.hid hP
  have HZ := Lib.hid hz
  clear hs hP hz hb1
  go_enter Try.func35, Try.ntmps35
  go_wp2_with fail
  refine HS.out.mono ?_
  intro e w1 hp
  obtain ⟨A', n', c', rfl, hb⟩ := HP.out e w1 hp
  have HPP := Lib.hid hp
  have F0 := blk_frozen hb o1
  have F1 := blk_frozen hb (o1 + 1)
  have Y0 : w1.cell? ⟨b1, o1, none⟩ = some (.bool zn) := (blk_cell hb o1).trans HZ.out.1
  have Y1 : w1.cell? ⟨b1, o1 + 1, none⟩ = some (.slice A m cap) := (blk_cell hb (o1 + 1)).trans HZ.out.2
  clear hp hb X1
  go_wp2_with fail
  go_ret
  exact ⟨w1, A', n', c', HPP.out, rfl, rfl⟩

set_option maxRecDepth 100000 in
set_option maxHeartbeats 1000000 in
theorem bigBytes (b1 o1 t1 : Nat) (c1 : Array Value) (zm : Bool) (ad : Addr) (cb : Nat) (b : List Int) (w : World) (P : Ending → World → Prop)
    (hb1 : w.heap[b1]? = some (.cells c1 t1 (0, 0))) (hz : c1[o1 + 2]? = some (.bool zm))
    (hs : Calls Try.prog 35 #[.pointer (some ⟨b1, o1, none⟩), .slice (some ad) b.length cb] (w.setCell ⟨b1, o1 + 2, none⟩ (.bool false)) P)
    (hP : ∀ e w1, P e w1 → e = .returned (.pointer (some ⟨b1, o1, none⟩))) :
    Calls Try.prog 26 #[.pointer (some ⟨b1, o1, none⟩), .slice (some ad) b.length cb] w fun e w' => P (.returned (.pointer (some ⟨b1, o1, none⟩))) w' ∧ e = .returned (.pointer (some ⟨b1, o1, none⟩)) := by
  have X1 : w.cell? ⟨b1, o1 + 2, none⟩ = some (.bool zm) := (blk_cell hb1 (o1 + 2)).trans hz
  have F1 := blk_frozen hb1 (o1 + 2)
  have HS := Lib.hid hs
  have HP := Lib.hid hP
  clear hs hP hz hb1
  go_enter Try.func26, Try.ntmps26
  go_wp2_with fail
  refine HS.out.mono ?_
  intro e w1 hp
  obtain rfl := HP.out e w1 hp
  have HPP := Lib.hid hp
  clear hp
  go_wp2_with fail
  go_ret
  exact ⟨HPP.out, rfl⟩
end Go.Proofs.Ytdfcomilhjoooaa.Be
