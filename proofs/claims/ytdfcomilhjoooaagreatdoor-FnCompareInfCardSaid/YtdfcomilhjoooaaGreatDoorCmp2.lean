/- Contract of impl.Compare where at least one of the two is infinite. -/
import Derived.Test.YtdfcomilhjoooaaGreatDoorCmp1
import Derived.Deep.RegionWith
namespace Go.Proofs.YtdfcomilhjoooaaGreatDoor.Base
open Go.RowKit Go.Proofs.YtdfcomilhjoooaaGreatDoorW.PrintWords

theorem sg_one (neg : Bool) (m : Nat) : sg 1 neg m = -1 ∨ sg 1 neg m = 1 := by cases neg <;> simp [sg]
theorem sg_zero (neg : Bool) (m : Nat) : sg 0 neg m = -1 ∨ sg 0 neg m = 0 ∨ sg 0 neg m = 1 := by
  by_cases h : m = 0 <;> cases neg <;> simp [sg, h]

theorem cmp_any (D1 D2 : Nat) (f1 f2 : Int) (n1 n2 : Bool) (m1 m2 : Nat) (hf : (f1 = 1 ∧ (f2 = 0 ∨ f2 = 1)) ∨ (f1 = 0 ∧ f2 = 1)) (w : World) (h1 : DecAt w D1 f1 n1 m1) (h2 : DecAt w D2 f2 n2 m2) :
    Calls Tryz.prog 16 #[.pointer (some ⟨D1, 0, none⟩), .pointer (some ⟨D2, 0, none⟩)] w fun e w' => e = .returned (.int .i64 (cmpv (sg f1 n1 m1) (sg f2 n2 m2) f1 f2)) ∧ w = w' := by
  have k1 : f1 = 0 ∨ f1 = 1 := by omega
  have k2 : f2 = 0 ∨ f2 = 1 := by omega
  have C1 := Lib.hid (sign_any D1 f1 k1 n1 m1 w h1)
  have C2 := Lib.hid (sign_any D2 f2 k2 n2 m2 w h2)
  obtain ⟨e1, A1, c1, b1⟩ := h1
  obtain ⟨e2, A2, c2, b2⟩ := h2
  refine cmp_core D1 D2 _ _ f1 f2 ?_ hf w C1 C2 (blk_cell b1 0) (blk_cell b2 0)
  rcases hf with ⟨rfl, rfl | rfl⟩ | ⟨rfl, rfl⟩
  · rcases sg_one n1 m1 with h | h <;> rcases sg_zero n2 m2 with h' | h' | h' <;> simp [h, h']
  · rcases sg_one n1 m1 with h | h <;> rcases sg_one n2 m2 with h' | h' <;> simp [h, h']
  · rcases sg_zero n1 m1 with h | h | h <;> rcases sg_one n2 m2 with h' | h' <;> simp [h, h']

/-- a Dec as the law hands it on: infinite, or finite with words that can be read -/
def isDec (w : World) (f : Int) (A : Option Addr) (c : Nat) (l : List Int) (ex : Int) : Prop :=
  (f = 1 ∧ A = none ∧ l = [] ∧ c = 0 ∧ ex = 0) ∨ (f = 0 ∧ -2147483648 ≤ ex ∧ ex ≤ 2147483647 ∧ l.length ≤ 100000 ∧ ReadsInt w .u64 A l.length l)
theorem isDec.below {w w' : World} {f : Int} {A : Option Addr} {c : Nat} {l : List Int} {ex : Int} (h : isDec w f A c l ex) (hb : Below w.heap.size w w') : isDec w' f A c l ex := by
  rcases h with h | ⟨h1, h2, h3, h4, h5⟩
  · exact .inl h
  · exact .inr ⟨h1, h2, h3, h4, h5.below hb⟩

theorem made_u (f : Int) (neg : Bool) (A : Option Addr) (c : Nat) (l : List Int) (ex : Int) (w : World) (h : isDec w f A c l ex) :
    Calls Tryz.prog 13 #[.agg #[.int .i64 f, .bool neg, .slice A l.length c, .int .i64 ex]] w fun e w' => ∃ D, e = .returned (.pointer (some ⟨D, 0, none⟩)) ∧ w.heap.size ≤ D ∧ DecAt w' D f neg (nlTo l l.length) ∧ Below w.heap.size w w' := by
  rcases h with ⟨rfl, rfl, rfl, rfl, rfl⟩ | ⟨rfl, h2, h3, h4, h5⟩
  · refine (madeInf_any neg w).mono ?_
    rintro e w' ⟨rfl, rfl⟩
    refine ⟨_, rfl, by omega, ⟨0, none, 0, ?_⟩, ?_⟩
    · have := blk_new (w.alloc (.cells #[.int .i64 1, .bool neg, .slice none 0 0, .int .i64 0] 25)) (.cells #[.int .i8 1, .bool neg, .int .i32 0, .bool false, .slice none 0 0, .bool false] 57)
      rw [World.size_alloc] at this
      exact this
    · exact below_alloc (below_alloc (Below.refl _ _) _) _
  · refine (made_any neg ex h2 h3 A c l h4 w h5).mono ?_
    rintro e w' ⟨D, A', c', rfl, hD, hb, _, _, _, hbel⟩
    exact ⟨D, rfl, hD, ⟨_, _, _, hb⟩, hbel⟩

set_option maxRecDepth 100000 in
set_option maxHeartbeats 2000000 in
theorem compare_any (f1 f2 : Int) (n1 n2 : Bool) (A1 A2 : Option Addr) (c1 c2 : Nat) (l1 l2 : List Int) (e1 e2 : Int) (hf : (f1 = 1 ∧ (f2 = 0 ∨ f2 = 1)) ∨ (f1 = 0 ∧ f2 = 1)) (w : World)
    (h1 : isDec w f1 A1 c1 l1 e1) (h2 : isDec w f2 A2 c2 l2 e2) :
    Calls Tryz.prog 11 #[.agg #[.int .i64 f1, .bool n1, .slice A1 l1.length c1, .int .i64 e1], .agg #[.int .i64 f2, .bool n2, .slice A2 l2.length c2, .int .i64 e2]] w fun e w' =>
      e = .returned (.int .i64 (cmpv (sg f1 n1 (nlTo l1 l1.length)) (sg f2 n2 (nlTo l2 l2.length)) f1 f2)) ∧ Below w.heap.size w w' := by
  obtain ⟨W, hW⟩ : ∃ W, W = (((w.alloc (.cells #[.int .i64 f1, .bool n1, .slice A1 l1.length c1, .int .i64 e1] 25)).alloc (.cells #[.int .i64 f2, .bool n2, .slice A2 l2.length c2, .int .i64 e2] 25)).drew) := ⟨_, rfl⟩
  have hWH := Lib.hid hW
  have hb : Below w.heap.size w W := by rw [hW]; go_grown
  have HBW := Lib.hid hb
  have HSZ : Hid (w.heap.size + 2 = W.heap.size) := Lib.hid (by rw [hW]; simp)
  have HX : Hid (W.heap[w.heap.size + 1]? = some (.cells #[.int .i64 f2, .bool n2, .slice A2 l2.length c2, .int .i64 e2] 25 (0, 0))) :=
    Lib.hid (by rw [hW]; have := blk_new (w.alloc (.cells #[.int .i64 f1, .bool n1, .slice A1 l1.length c1, .int .i64 e1] 25)) (.cells #[.int .i64 f2, .bool n2, .slice A2 l2.length c2, .int .i64 e2] 25); rw [World.size_alloc] at this; exact this)
  have HM1 := Lib.hid (made_u f1 n1 A1 c1 l1 e1 W (h1.below hb))
  have HM2 := Lib.hid (fun (w1 : World) (hb1 : Below W.heap.size W w1) => made_u f2 n2 A2 c2 l2 e2 w1 (h2.below (hb.trans (hb1.mono hb.size))))
  have HC := Lib.hid (fun (D1 D2 : Nat) (w1 : World) => cmp_any D1 D2 f1 f2 n1 n2 (nlTo l1 l1.length) (nlTo l2 l2.length) hf w1)
  clear hW h1 h2 hb hf
  generalize cmpv (sg f1 n1 (nlTo l1 l1.length)) (sg f2 n2 (nlTo l2 l2.length)) f1 f2 = R at HC ⊢
  go_enter Tryz.func11, Tryz.ntmps11
  go_wp2_with fail
  go_region_with (first | (go_at_call 13; have T := HM1; rw [← hWH.out]; refine HM1.out.mono ?_; rintro e w1 ⟨D1, rfl, hD1, hdec, hbel⟩; have HD1 := Lib.hid hdec; have HB1 := Lib.hid hbel; have HM2' := Lib.hid (HM2.out w1 hbel); have X0 : w1.cell? ⟨w.heap.size + 1, 0, none⟩ = some (.int .i64 f2) := blk_cell (blk_below HX.out hbel) 0; have X1 : w1.cell? ⟨w.heap.size + 1, 1, none⟩ = some (.bool n2) := blk_cell (blk_below HX.out hbel) 1; have X2 : w1.cell? ⟨w.heap.size + 1, 2, none⟩ = some (.slice A2 l2.length c2) := blk_cell (blk_below HX.out hbel) 2; have X3 : w1.cell? ⟨w.heap.size + 1, 3, none⟩ = some (.int .i64 e2) := blk_cell (blk_below HX.out hbel) 3; clear hdec hbel HM1 T HM2 hD1) | (go_at_call 13; refine HM2'.out.mono ?_; rintro e w2 ⟨D2, rfl, hD2, hdec2, hbel2⟩; have HCC := Lib.hid (HC.out D1 D2 w2 (HD1.out.below hbel2) hdec2); have HB2 := Lib.hid hbel2; clear hdec2 hbel2 HM2' hD2 HC) | (go_at_call 16; refine HCC.out.mono ?_; rintro e w3 ⟨rfl, rfl⟩))
  all_goals go_wp2_with fail
  all_goals go_ret
  all_goals exact ⟨rfl, HBW.out.trans ((HB1.out.mono (by have := HSZ.out; omega)).trans (HB2.out.mono (by have := HSZ.out; have := HB1.out.size; omega)))⟩
end Go.Proofs.YtdfcomilhjoooaaGreatDoor.Base
