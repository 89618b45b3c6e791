/- Contracts of impl.made. Lengths up to a hundred thousand words, exponents of 32 bits. -/
import Derived.Test.YtdfcomilhjoooaaGreatDoorBase6
import Derived.Deep.RegionWith
namespace Go.Proofs.YtdfcomilhjoooaaGreatDoor.Base
open Go.RowKit Go.Proofs.YtdfcomilhjoooaaGreatDoorW.PrintWords

theorem madeInf_any (neg : Bool) (w : World) :
    Calls Tryz.prog 13 #[.agg #[.int .i64 1, .bool neg, .slice none 0 0, .int .i64 0]] w fun e w' => e = .returned (.pointer (some ⟨w.heap.size + 1, 0, none⟩)) ∧
      (w.alloc (.cells #[.int .i64 1, .bool neg, .slice none 0 0, .int .i64 0] 25)).alloc (.cells #[.int .i8 1, .bool neg, .int .i32 0, .bool false, .slice none 0 0, .bool false] 57) = w' := by
  go_enter Tryz.func13, Tryz.ntmps13
  go_wp2_with fail
  go_ret
  exact ⟨rfl, rfl⟩

theorem made_set {w W w1 : World} {ex : Int} {l : List Int} {m n b c1 : Nat} {A1 : Option Addr} (hlm : (l.take m).length = m) (hl : n ≤ 100000) (hmn : m ≤ n) (hsz : W.heap.size = w.heap.size + 2)
    (hD : W.heap[w.heap.size + 1]? = some (.cells #[.int .i8 0, .bool false, .int .i32 ex, .bool false, .slice none 0 0, .bool false] 57 (0, 0))) (hbs : W.heap.size ≤ b)
    (hblk : w1.heap[b]? = some (.cells #[.bool false, .slice A1 m c1, .bool false] 55 (0, 0))) (hown : w1.ownsRow W.heap.size 74 1 (.slice A1 m c1) m (nums .u64 (l.take m))) (hbel : Below W.heap.size W w1) :
    Calls Tryz.prog 19 #[.pointer (some ⟨w.heap.size + 1, 3, none⟩), .pointer (some ⟨b, 0, none⟩)] w1 fun e w' => ∃ A' c', e = .returned (.pointer (some ⟨w.heap.size + 1, 3, none⟩)) ∧
      But (w.heap.size + 1) w1 w' ∧ w'.heap[w.heap.size + 1]? = some (.cells #[.int .i8 0, .bool false, .int .i32 ex, .bool false, .slice A' m c', .bool false] 57 (0, 0)) ∧
      w'.ownsRow w1.heap.size 74 1 (.slice A' m c') m (nums .u64 (l.take m)) ∧ c' ≤ m + 4 ∧ (A' = none → c' = 0) := by
  have h := bigset (w.heap.size + 1) 3 b 0 57 55 #[.int .i8 0, .bool false, .int .i32 ex, .bool false, .slice none 0 0, .bool false] #[.bool false, .slice A1 m c1, .bool false] (by omega) false false false false A1 c1 (l.take m) (by omega) w1
    (by rw [hlm]; exact own_reads' hown) (blk_below hD hbel) hblk ⟨rfl, rfl⟩ ⟨rfl, by rw [hlm]; rfl⟩ (fun ad h => by obtain ⟨A, c, e, _, _, _, hb⟩ := own_form hown; injection e with e1; subst e1; have := (hb ad h).2; omega) rfl rfl
  rw [hlm] at h
  exact h

theorem made_end {w W w1 w2 : World} {neg : Bool} {ex : Int} {l : List Int} {m c2 : Nat} {A2 : Option Addr} (hsz : W.heap.size = w.heap.size + 2) (hbw : Below w.heap.size w W) (hbe : Below W.heap.size W w1) (hbut : But (w.heap.size + 1) w1 w2)
    (hblk : w2.heap[w.heap.size + 1]? = some (.cells #[.int .i8 0, .bool false, .int .i32 ex, .bool false, .slice A2 m c2, .bool false] 57 (0, 0)))
    (hown : w2.ownsRow w1.heap.size 74 1 (.slice A2 m c2) m (nums .u64 (l.take m))) (hc : c2 ≤ m + 4) (hA : A2 = none → c2 = 0) :
    ∃ D A' c', Ending.returned (.pointer (some ⟨w.heap.size + 1, 0, none⟩)) = Ending.returned (.pointer (some ⟨D, 0, none⟩)) ∧ w.heap.size ≤ D ∧
      (w2.setCell ⟨w.heap.size + 1, 1, none⟩ (.bool neg)).heap[D]? = some (.cells #[.int .i8 0, .bool neg, .int .i32 ex, .bool false, .slice A' m c', .bool false] 57 (0, 0)) ∧
      (w2.setCell ⟨w.heap.size + 1, 1, none⟩ (.bool neg)).ownsRow w.heap.size 74 1 (.slice A' m c') m (nums .u64 (l.take m)) ∧ c' ≤ m + 4 ∧ (A' = none → c' = 0) ∧ Below w.heap.size w (w2.setCell ⟨w.heap.size + 1, 1, none⟩ (.bool neg)) := by
  have h1 := hbe.size
  exact ⟨_, A2, c2, rfl, by omega, blk_set hblk 1 (.bool neg), own_lower (own_set hown (by omega)) (by omega), hc, hA,
    hbw.trans ((hbe.mono (by omega)).trans ((hbut.set 1 (.bool neg)).below (by omega) (by omega)))⟩

set_option maxRecDepth 100000 in
set_option maxHeartbeats 2000000 in
theorem made_any (neg : Bool) (ex : Int) (h0 : -2147483648 ≤ ex) (h1 : ex ≤ 2147483647) (A : Option Addr) (c : Nat) (l : List Int) (hl : l.length ≤ 100000) (w : World) (hr : ReadsInt w .u64 A l.length l) :
    Calls Tryz.prog 13 #[.agg #[.int .i64 0, .bool neg, .slice A l.length c, .int .i64 ex]] w fun e w' => ∃ D A' c', e = .returned (.pointer (some ⟨D, 0, none⟩)) ∧ w.heap.size ≤ D ∧
      w'.heap[D]? = some (.cells #[.int .i8 0, .bool neg, .int .i32 ex, .bool false, .slice A' (nlTo l l.length) c', .bool false] 57 (0, 0)) ∧
      w'.ownsRow w.heap.size 74 1 (.slice A' (nlTo l l.length) c') (nlTo l l.length) (nums .u64 (l.take (nlTo l l.length))) ∧ c' ≤ nlTo l l.length + 4 ∧ (A' = none → c' = 0) ∧ Below w.heap.size w w' := by
  obtain ⟨W, hW⟩ : ∃ W, W = (((w.alloc (.cells #[.int .i64 0, .bool neg, .slice A l.length c, .int .i64 ex] 25)).alloc (.cells #[.int .i8 0, .bool false, .int .i32 ex, .bool false, .slice none 0 0, .bool false] 57)).drew) := ⟨_, rfl⟩
  have hWH : Hid (W = (((w.alloc (.cells #[.int .i64 0, .bool neg, .slice A l.length c, .int .i64 ex] 25)).alloc (.cells #[.int .i8 0, .bool false, .int .i32 ex, .bool false, .slice none 0 0, .bool false] 57)).drew)) := Lib.hid hW
  have HBW : Hid (Below w.heap.size w W) := Lib.hid (by rw [hW]; go_grown)
  have HSZ : Hid (W.heap.size = w.heap.size + 2) := Lib.hid (by rw [hW]; simp)
  have HD : Hid (W.heap[w.heap.size + 1]? = some (.cells #[.int .i8 0, .bool false, .int .i32 ex, .bool false, .slice none 0 0, .bool false] 57 (0, 0))) :=
    Lib.hid (by rw [hW]; have := blk_new (w.alloc (.cells #[.int .i64 0, .bool neg, .slice A l.length c, .int .i64 ex] 25)) (.cells #[.int .i8 0, .bool false, .int .i32 ex, .bool false, .slice none 0 0, .bool false] 57); rw [World.size_alloc] at this; exact this)
  have HX : Hid (W.heap[w.heap.size]? = some (.cells #[.int .i64 0, .bool neg, .slice A l.length c, .int .i64 ex] 25 (0, 0))) :=
    Lib.hid (by rw [hW]; exact blk_alloc (blk_new w _) _)
  have HWhole := Lib.hid (whole_any A c l hl W (hr.below HBW.out))
  clear hW hr
  obtain ⟨n, hn⟩ : ∃ n, n = l.length := ⟨_, rfl⟩
  rw [← hn] at hWH HX HWhole hl ⊢
  obtain ⟨m, hm⟩ : ∃ m, m = nlTo l n := ⟨_, rfl⟩
  have hmn : m ≤ n := by rw [hm]; exact nlTo_le l n
  rw [← hm] at HWhole ⊢
  have HLM : Hid ((l.take m).length = m) := Lib.hid (by simp; omega)
  clear hn hm
  go_enter Tryz.func13, Tryz.ntmps13
  go_wp2_with fail
  go_region_with (first | (go_at_call 20; rw [← hWH.out]; refine HWhole.out.mono ?_; rintro e w1 ⟨b, A1, c1, rfl, hbs, hblk, hown, hc1, hA1, hbel⟩; have HSET := Lib.hid (made_set HLM.out hl hmn HSZ.out HD.out hbs hblk hown hbel); have HBE := Lib.hid hbel; clear hblk hown hc1 hA1 hbel hbs) | (go_at_call 19; refine HSET.out.mono ?_; rintro e w2 ⟨A2, c2, rfl, hbut, hblk, hown, hc2, hA2⟩; have HBUT := Lib.hid hbut; have HO2 := Lib.hid hown; have HC2 := Lib.hid hc2; have HA2 := Lib.hid hA2; have HB2 := Lib.hid hblk; have X1 : w2.cell? ⟨w.heap.size, 1, none⟩ = some (.bool neg) := blk_cell (hbut.blk (blk_below HX.out HBE.out) (by omega)) 1; have Z1 : w2.cell? ⟨w.heap.size + 1, 1, none⟩ = some (.bool false) := blk_cell hblk 1; have F1 : w2.frozen? ⟨w.heap.size + 1, 1, none⟩ = false := blk_frozen hblk 1; clear hbut hblk hown hc2 hA2 HSET))
  all_goals go_wp2_with fail
  all_goals go_ret
  all_goals exact made_end HSZ.out HBW.out HBE.out HBUT.out HB2.out HO2.out HC2.out HA2.out
end Go.Proofs.YtdfcomilhjoooaaGreatDoor.Base
