/- Decimal.Compose of form 0, general in what BigInt.SetBytes gives. -/
import Derived.Test.YtdfcomilhjoooaaSetInt
namespace Go.Proofs.Ytdfcomilhjoooaa.Be
open Go.RowKit Go.Proofs.YtdfcomilhjoooaaW.PrintWords Go.Proofs.Ytdfcomilhjoooaa.Base Go.Proofs.Ytdfcomilhjoooaa.Num

set_option maxRecDepth 100000 in
set_option maxHeartbeats 1000000 in
theorem decComp0 (D t1 : Nat) (v0 v1 v2 v3 v4 v5 : Value) (neg : Bool) (ad : Addr) (cb : Nat) (b : List Int) (ex : Int) (w : World) (P : World → Prop)
    (hb : w.heap[D]? = some (.cells #[v0, v1, v2, v3, v4, v5] t1 (0, 0)))
    (hs : Calls Try.prog 26 #[.pointer (some ⟨D, 3, none⟩), .slice (some ad) b.length cb] ((w.setCell ⟨D, 0, none⟩ (.int .i8 0)).setCell ⟨D, 1, none⟩ (.bool neg)) fun e w' => e = .returned (.pointer (some ⟨D, 3, none⟩)) ∧ P w')
    (hP : ∀ w1, P w1 → w1.cell? ⟨D, 2, none⟩ = some v2 ∧ w1.frozen? ⟨D, 2, none⟩ = false) :
    Calls Try.prog 17 #[.pointer (some ⟨D, 0, none⟩), .int .u8 0, .bool neg, .slice (some ad) b.length cb, .int .i32 ex] w fun e w' => ∃ w1, P w1 ∧ e = .returned .nilIface ∧ w1.setCell ⟨D, 2, none⟩ (.int .i32 ex) = w' := by
  have X0 : w.cell? ⟨D, 0, none⟩ = some v0 := blk_cell hb 0
  have F0 := blk_frozen hb 0
  have X1 : w.cell? ⟨D, 1, none⟩ = some v1 := blk_cell hb 1
  have F1 := blk_frozen hb 1
  have HS := Lib.hid hs
  have HP := Lib.hid hP
  clear hs hP hb
  go_enter Try.func17, Try.ntmps17
  go_wp2_with fail
  refine HS.out.mono ?_
  rintro e w1 ⟨rfl, hp⟩
  obtain ⟨X2, F2⟩ := HP.out w1 hp
  have HPP := Lib.hid hp
  clear hp
  go_wp2_with fail
  go_ret
  exact ⟨w1, HPP.out, rfl, rfl⟩
end Go.Proofs.Ytdfcomilhjoooaa.Be
