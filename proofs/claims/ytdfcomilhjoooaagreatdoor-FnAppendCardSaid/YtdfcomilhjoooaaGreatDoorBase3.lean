/- Contracts of Int.SetBits, Int.Set and BigInt.Set into a nought, SetMathBigInt, MathBigInt, Bits. Lengths up to a hundred thousand words. -/
import Derived.Test.YtdfcomilhjoooaaGreatDoorBase2
import Derived.LaidEqlPtr
import Derived.Deep.RegionWith
namespace Go.Proofs.YtdfcomilhjoooaaGreatDoor.Base
open Go.RowKit Go.Proofs.YtdfcomilhjoooaaGreatDoorW.PrintWords

theorem run_neq_ptr_other {P : Program} (w : World) {tp te : TypeId} {j : TypeInfo} {a b : Addr} {ca cb : Array Value} {ta tb : TypeId} (hp : P.underlying tp = some (.pointer te)) (hte : P.info? te = some j) (hsz : j.size ≠ 0)
    (hne : a ≠ b) (ha : w.heap[a.block]? = some (.cells ca ta (0, 0))) (hb : w.heap[b.block]? = some (.cells cb tb (0, 0))) :
    (binOp .neq tp (.pointer (some a)) (.pointer (some b))).run P w = .ok (.bool true) w := by
  have h : ∀ d : Nat, (Op.equalIn (d + 1) tp (.pointer (some a)) (.pointer (some b))).run P w = .ok false w := fun d => by
    simp [Op.equalIn, run_underlying hp, sizeOf, typeInfo, hte, hsz, run_sameAddr_other w hne ha hb]
  simp only [binOp]
  simp [Op.equal, Op.maxDepth, h 9999]
theorem infoInt : ∃ j, Tryz.prog.info? 53 = some j ∧ j.size ≠ 0 := by
  have h2 : (Tryz.prog.info? 53).map (·.size) = some 2 := by kernel_rfl
  cases h : Tryz.prog.info? 53 with
  | none => rw [h] at h2; cases h2
  | some i => rw [h] at h2; exact ⟨i, rfl, by simp at h2; omega⟩

theorem below_of_drew {w w1 : World} (h : Below w.drew.heap.size w.drew w1) : Below w.heap.size w w1 := (below_drew (Below.refl _ _)).trans h

set_option maxRecDepth 100000 in
set_option maxHeartbeats 1000000 in
theorem intset_any (b1 o1 b2 o2 t1 t2 : Nat) (c1 c2 : Array Value) (hne : ¬ b1 = b2) (xn zn : Bool) (A : Option Addr) (c : Nat) (l : List Int) (hl : l.length ≤ 100000) (w : World) (hr : ReadsInt w .u64 A l.length l)
    (hb1 : w.heap[b1]? = some (.cells c1 t1 (0, 0))) (hb2 : w.heap[b2]? = some (.cells c2 t2 (0, 0)))
    (z0 : c1[o1]? = some (.bool zn)) (z1 : c1[o1 + 1]? = some (.slice none 0 0)) (x0 : c2[o2]? = some (.bool xn)) (x1 : c2[o2 + 1]? = some (.slice A l.length c)) :
    Calls Tryz.prog 32 #[.pointer (some ⟨b1, o1, none⟩), .pointer (some ⟨b2, o2, none⟩)] w fun e w' => ∃ w1 A' c', e = .returned (.pointer (some ⟨b1, o1, none⟩)) ∧
      Below w.heap.size w w1 ∧ w1.ownsRow w.heap.size 74 1 (.slice A' l.length c') l.length (nums .u64 l) ∧ c' ≤ l.length + 4 ∧ (A' = none → c' = 0) ∧ w' = (w1.setCell ⟨b1, o1 + 1, none⟩ (.slice A' l.length c')).setCell ⟨b1, o1, none⟩ (.bool xn) := by
  obtain ⟨j, hj, hjs⟩ := infoInt
  have hneq : (binOp .neq 72 (.pointer (some ⟨b1, o1, none⟩)) (.pointer (some ⟨b2, o2, none⟩))).run Tryz.prog w = .ok (.bool true) w :=
    run_neq_ptr_other w Tryz.underlying72 hj hjs (by intro h; injection h with h; exact hne h) hb1 hb2
  have Z0 : w.cell? ⟨b1, o1, none⟩ = some (.bool zn) := (blk_cell hb1 o1).trans z0
  have Z1 : w.cell? ⟨b1, o1 + 1, none⟩ = some (.slice none 0 0) := (blk_cell hb1 (o1 + 1)).trans z1
  have X0 : w.cell? ⟨b2, o2, none⟩ = some (.bool xn) := (blk_cell hb2 o2).trans x0
  have X1 : w.cell? ⟨b2, o2 + 1, none⟩ = some (.slice A l.length c) := (blk_cell hb2 (o2 + 1)).trans x1
  have F0 := blk_frozen hb1 o1
  have F1 := blk_frozen hb1 (o1 + 1)
  have HR := Lib.hid hr
  have HB1 := Lib.hid hb1
  have HB2 := Lib.hid hb2
  clear hr hb1 hb2 z0 z1 x0 x1 hj hjs
  go_enter Tryz.func32, Tryz.ntmps32
  go_wp2_with fail
  go_region_with (go_at_call 44; refine (set_nil A c l hl (World.drew w) HR.out).mono ?_; rintro e w1 ⟨A2, c2, rfl, hown, hc2, hA2, hbel⟩; have HC2 := Lib.hid hc2; have HA2 := Lib.hid hA2; clear hc2 hA2; have G1 := (blk_frozen (blk_below (w := World.drew w) HB1.out hbel) (o1 + 1)); have G0 := (blk_frozen (blk_below (w := World.drew w) HB1.out hbel) o1); have C1 : (w1.cell? ⟨b1, o1 + 1, none⟩) = some (.slice none 0 0) := pw_cell_below hbel Z1; have C0 : (w1.cell? ⟨b1, o1, none⟩) = some (.bool zn) := pw_cell_below hbel Z0; have D0 : (w1.cell? ⟨b2, o2, none⟩) = some (.bool xn) := pw_cell_below hbel X0; have HO := Lib.hid hown; have HBE := Lib.hid hbel; clear hown hbel)
  all_goals go_wp2_with fail
  all_goals go_ret
  all_goals exact ⟨w1, A2, c2, rfl, below_of_drew HBE.out, HO.out, HC2.out, HA2.out, rfl⟩
end Go.Proofs.YtdfcomilhjoooaaGreatDoor.Base
