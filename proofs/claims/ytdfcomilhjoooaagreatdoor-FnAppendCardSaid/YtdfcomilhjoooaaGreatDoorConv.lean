/- nat.convertWords at base ten, without a table. -/
import Derived.Test.YtdfcomilhjoooaaGreatDoorDivW
namespace Go.Proofs.YtdfcomilhjoooaaGreatDoor.Div
open Go.RowKit Go.Proofs.YtdfcomilhjoooaaGreatDoorW.PrintWords Go.Proofs.YtdfcomilhjoooaaGreatDoor.Base Go.Proofs.YtdfcomilhjoooaaGreatDoor.Num
set_option linter.unusedVariables false

/-- figure p of a number, the lowest first, as a byte -/
def fig (V : Int) (p : Nat) : Int := 48 + V / 10 ^ p % 10
/-- the figures written so far: those below N - i -/
def DS (V : Int) (N h i : Nat) (wr : World) : Prop := ∃ sb : Array Value, wr.heap[h]? = some (.cells sb 5 (0, 0)) ∧ sb.size = N ∧ ∀ p, p + i < N → sb[N - 1 - p]? = some (.int .u8 (fig V p))
/-- the words still to be told -/
def WS (g cap : Nat) (ql : List Int) (wr : World) : Prop := ∃ cur : Array Value, wr.heap[g]? = some (.cells cur 74 (0, 0)) ∧ cur.size = cap ∧ (∀ j, j < ql.length → cur[j]? = some (.int .u64 (ql.getD j 0))) ∧ Dig 18446744073709551616 ql ∧ Nrm ql ∧ ql.length ≤ 100 ∧ ql.length ≤ cap

theorem ds_cell {V : Int} {N h i : Nat} {wr : World} (hd : DS V N h i wr) {t : Nat} (ht : t < N) : (∃ v, wr.cell? ⟨h, t, none⟩ = some v) ∧ wr.frozen? ⟨h, t, none⟩ = false := by
  obtain ⟨sb, h1, h2, _⟩ := hd
  exact ⟨⟨sb[t], by rw [blk_cell h1 t]; simp [h2, ht]⟩, blk_frozen h1 t⟩
theorem ds_step {V : Int} {N h i : Nat} {wr : World} (hd : DS V N h (i + 1) wr) (hi : i + 1 ≤ N) {x : Int} (hx : x = fig V (N - 1 - i)) : DS V N h i (wr.setCell ⟨h, i, none⟩ (.int .u8 x)) := by
  obtain ⟨sb, h1, h2, h3⟩ := hd
  refine ⟨_, blk_set h1 i _, by simp [h2], fun p hp => ?_⟩
  by_cases e : p + (i + 1) < N
  · rw [Array.getElem?_setIfInBounds_ne (by omega)]; exact h3 p e
  · have : p = N - 1 - i := by omega
    subst this
    have e2 : N - 1 - (N - 1 - i) = i := by omega
    rw [e2, hx, Array.getElem?_setIfInBounds_self_of_lt (by omega)]
theorem pow10_pos (n : Nat) : (0 : Int) < 10 ^ n := Int.pow_pos (by decide)
theorem div_div10 (V : Int) (m j : Nat) : V / 10 ^ m / 10 ^ j = V / 10 ^ (m + j) := by
  have h := pow10_pos m
  rw [Int.ediv_ediv, if_neg (by omega), Int.sub_zero, Int.pow_add]
/-- a figure of the rest by ten to the nineteenth is a figure of the number -/
theorem rest_fig (X : Int) (hX : 0 ≤ X) (j : Nat) (hj : j < 19) : X % 10000000000000000000 / 10 ^ j % 10 = X / 10 ^ j % 10 := by
  have e : (10000000000000000000 : Int) = 10 ^ j * (10 * 10 ^ (18 - j)) := by
    rw [← Int.mul_assoc, Int.mul_comm (10 ^ j) 10, Int.mul_assoc, ← Int.pow_add, show j + (18 - j) = 18 by omega]
    decide
  have h : X % 10000000000000000000 + 10000000000000000000 * (X / 10000000000000000000) = X := by omega
  generalize hQ : X / 10000000000000000000 = Q at h
  generalize hR : X % 10000000000000000000 = R at h ⊢
  rw [← h, e, Int.mul_assoc, Int.add_mul_ediv_left _ _ (by have := pow10_pos j; omega), Int.mul_assoc, Int.add_mul_emod_self_left]
theorem quo_low {V : Int} {m i : Nat} (hV : 0 ≤ V) (hlt : V < 10 ^ (m + i)) (hi : i < 19) : V / 10 ^ m / 10000000000000000000 = 0 := by
  have e : (10000000000000000000 : Int) = 10 ^ 19 := by decide
  rw [e, div_div10]
  refine Int.ediv_eq_zero_of_lt hV (Int.lt_of_lt_of_le hlt ?_)
  have h2 : (10 : Int) ^ (m + 19) = 10 ^ (m + i) * 10 ^ (19 - i) := by rw [← Int.pow_add, show m + i + (19 - i) = m + 19 by omega]
  rw [h2]
  have h3 := pow10_pos (m + i)
  have h4 : (1 : Int) ≤ 10 ^ (19 - i) := pow10_pos (19 - i)
  have := Int.mul_le_mul_of_nonneg_left h4 (Int.le_of_lt h3)
  rwa [Int.mul_one] at this

/-- what lies below B is kept, and block S -/
structure BK (B S : Nat) (w wr : World) : Prop where
  bel : Below B w wr
  kp : wr.heap[S]? = w.heap[S]?
theorem BK.refl (B S : Nat) (w : World) : BK B S w w := ⟨Below.refl _ _, rfl⟩
theorem BK.setCell {B S b i : Nat} {w wr : World} (h : BK B S w wr) (hB : B ≤ b) (hS : ¬ S = b) (v : Value) : BK B S w (wr.setCell ⟨b, i, none⟩ v) := ⟨h.bel.setCell hB v, (Below.heap_setCell wr ⟨b, i, none⟩ v S hS).trans h.kp⟩
theorem after_div {B S g cap h N i : Nat} {V : Int} {ql ql2 : List Int} {w wr w2 : World} (hq : QS ql g cap wr 0 ql2 w2) (hw : WS g cap ql wr) (hd : DS V N h i wr) (hb : BK B S w wr) (hB : B ≤ g) (hne : ¬ h = g) (hBw : B ≤ w.heap.size) (hS : S < w.heap.size ∧ ¬ S = g ∧ ¬ S = h) :
    WS g cap (ql2.take (nlTo ql2 ql2.length)) w2 ∧ (ql2.take (nlTo ql2 ql2.length)).length = nlTo ql2 ql2.length ∧ val 18446744073709551616 (ql2.take (nlTo ql2 ql2.length)) = val 18446744073709551616 ql / 10000000000000000000 ∧ DS V N h i w2 ∧ BK B S w w2 := by
  obtain ⟨cur, h1, h2, h3, h4, h5, h6, h7, h8⟩ := hq
  obtain ⟨_, _, _, _, _, _, k6, k7⟩ := hw
  obtain ⟨sb, d1, d2, d3⟩ := hd
  have hle := nlTo_le ql2 ql2.length
  have hlen : (ql2.take (nlTo ql2 ql2.length)).length = nlTo ql2 ql2.length := by rw [List.length_take]; omega
  refine ⟨⟨cur, h1, h2, fun j hj => ?_, h6.take _, nrm_nlTo ql2 _ (Nat.le_refl _), by omega, by omega⟩, hlen, ?_, ⟨sb, h8.blk d1 hne, d2, d3⟩, ⟨hb.bel.trans (h8.below hB (Nat.le_trans hBw hb.bel.size)), (h8.block S (Nat.lt_of_lt_of_le hS.1 hb.bel.size) hS.2.1).trans hb.kp⟩⟩
  · have := h5 j (by omega)
    rw [Nat.zero_add] at this
    rw [this]
    simp only [List.getD_eq_getElem?_getD, List.getElem?_take]
    rw [if_pos (by omega)]
  · rw [val_nlTo _ ql2 _ (Nat.le_refl _), List.take_length, h7, List.drop_zero]
theorem ws_set {g cap h i : Nat} {ql : List Int} {w : World} (hw : WS g cap ql w) (hne : ¬ h = g) (v : Value) : WS g cap ql (w.setCell ⟨h, i, none⟩ v) := by
  obtain ⟨cur, h1, h2⟩ := hw
  exact ⟨cur, blk_far h1 (p := ⟨h, i, none⟩) (fun e => hne e.symm) v, h2⟩
theorem ws_pos {g cap : Nat} {ql : List Int} {w : World} (hw : WS g cap ql w) (h0 : 0 < ql.length) : 0 < val 18446744073709551616 ql := by
  obtain ⟨_, _, _, _, h4, h5, _⟩ := hw
  exact val_pos (by decide) h4 h5 (by intro e; rw [e] at h0; exact absurd h0 (by decide))

/-- what convertWords leaves -/
def CwOut (V : Int) (N h B S : Nat) (w : World) (e : Ending) (w' : World) : Prop := e = .returned (.tuple #[]) ∧ DS V N h 0 w' ∧ BK B S w w'

set_option maxRecDepth 100000 in
set_option maxHeartbeats 8000000 in
theorem conv_c (B S g cap h N : Nat) (l : List Int) (A : Option Addr) (hN : N ≤ 1000) (hcm : cap ≤ 1000) (hV : val 18446744073709551616 l < 10 ^ N) (hB : B ≤ g ∧ B ≤ h ∧ ¬ h = g) (w : World) (hBw : B ≤ w.heap.size) (hS : S < w.heap.size ∧ ¬ S = g ∧ ¬ S = h)
    (hw : WS g cap l w) (hs : ∃ sb, w.heap[h]? = some (.cells sb 5 (0, 0)) ∧ sb.size = N) (stk : Value) :
    Calls Tryz.prog 63 #[.slice (some ⟨g, 0, none⟩) l.length cap, stk, .slice (some ⟨h, 0, none⟩) N N, .int .u64 10, .int .i64 19, .int .u64 10000000000000000000, .slice none 0 0] w fun e w' => CwOut (val 18446744073709551616 l) N h B S w e w' := by
  obtain ⟨V, hVe⟩ : ∃ V, V = val 18446744073709551616 l := ⟨_, rfl⟩
  have hV0 : 0 ≤ V := by rw [hVe]; exact val_nonneg (by decide) hw.choose_spec.2.2.2.1
  have HS0 : Hid (DS V N h N w) := Lib.hid (by obtain ⟨sb, h1, h2⟩ := hs; exact ⟨sb, h1, h2, fun p hp => by omega⟩)
  have HW := Lib.hid hw
  have HVE := Lib.hid hVe
  have HV0 := Lib.hid hV0
  rw [← hVe] at hV ⊢
  have HV := Lib.hid hV
  have HB := Lib.hid hB
  have HBW := Lib.hid hBw
  have HSS := Lib.hid hS
  clear hw hs hVe hV0 hV hB hBw hS
  go_enter Tryz.func63, Tryz.ntmps63
  go_wp2_with fail
  go_loopw [0, 19] (fun v0 v19 wr => ∃ (i : Nat) (ql : List Int), i ≤ N ∧ v0 = .slice (some ⟨g, 0, none⟩) ql.length cap ∧ v19 = .int .i64 i ∧ val 18446744073709551616 ql = V / 10 ^ (N - i) ∧ WS g cap ql wr ∧ DS V N h i wr ∧ BK B S w wr) (fun _ v19 _ => (intOf v19).toNat)
  case atStart => exact ⟨N, l, Nat.le_refl _, rfl, rfl, by rw [Nat.sub_self, Int.pow_zero, Int.ediv_one, HVE.out], HW.out, HS0.out, BK.refl _ _ _⟩
  case round =>
    obtain ⟨i, ql, hi, rfl, rfl, hval, hws, hds, hbel⟩ := hrel
    have HVAL := Lib.hid hval
    have HWS := Lib.hid hws
    have HDS := Lib.hid hds
    have HBEL := Lib.hid hbel
    clear hval hws hds hbel
    obtain ⟨k, hk⟩ : ∃ k, k = ql.length := ⟨_, rfl⟩
    rw [← hk]
    by_cases hk0 : 0 < k
    · have hipos : 0 < i := by
        rcases Nat.eq_zero_or_pos i with h | h
        · have h1 := ws_pos HWS.out (by omega)
          have h2 := HVAL.out
          rw [h, Nat.sub_zero, Int.ediv_eq_zero_of_lt HV0.out HV.out] at h2
          omega
        · exact h
      have HIP := Lib.hid hipos
      obtain ⟨cur, c1, c2, c3, c4, c5, c6, c7⟩ := HWS.out
      have HDW := Lib.hid (divW_c g cap ql (by omega) c6 c7 hcm c4 cur wr c1 c2 c3)
      rw [← hk] at HDW
      obtain ⟨R, hR⟩ : ∃ R, R = val 18446744073709551616 ql % 10000000000000000000 := ⟨_, rfl⟩
      have hRr : 0 ≤ R ∧ R < 10000000000000000000 := by omega
      have HR := Lib.hid hR
      have HRR := Lib.hid hRr
      clear c1 c2 c3 c4 c5 c6 c7 hipos hR hRr
      have dk : decide ((0 : Int) < (k : Int)) = true := decide_eq_true (by omega)
      clear hk
      go_wp2_with fail
      refine HDW.out.mono ?_
      rintro e w2 ⟨ql2, rfl, hqs⟩
      rw [← HR.out]
      obtain ⟨a1, a2, a3, a4, a5⟩ := after_div hqs HWS.out HDS.out HBEL.out HB.out.1 HB.out.2.2 HBW.out HSS.out
      rw [← a2]
      obtain ⟨qn, hqn⟩ : ∃ qn, qn = ql2.take (nlTo ql2 ql2.length) := ⟨_, rfl⟩
      rw [← hqn] at a1 a3 ⊢
      have A1 := Lib.hid a1
      have A3 := Lib.hid a3
      have A4 := Lib.hid a4
      have A5 := Lib.hid a5
      clear a1 a2 a3 a4 a5 hqs hqn HDW dk
      go_wp2_with fail
      go_loopw [19, 20, 21] (fun v19 v20 v21 wr2 => ∃ j i1 : Nat, j ≤ 19 ∧ i1 + j = i ∧ v21 = .int .i64 j ∧ v19 = .int .i64 i1 ∧ v20 = .int .u64 (R / 10 ^ j) ∧ DS V N h i1 wr2 ∧ WS g cap qn wr2 ∧ BK B S w wr2) (fun _ _ v21 _ => 19 - (intOf v21).toNat)
      case atStart => exact ⟨0, i, by omega, rfl, rfl, rfl, by rw [Int.pow_zero, Int.ediv_one], A4.out, A1.out, A5.out⟩
      case round =>
        obtain ⟨j, i1, hj, hij, rfl, rfl, rfl, hds2, hws2, hbel2⟩ := hrel
        have HD2 := Lib.hid hds2
        have HW2 := Lib.hid hws2
        have HB2 := Lib.hid hbel2
        have HIJ := Lib.hid hij
        clear hds2 hws2 hbel2 hij
        by_cases hj19 : j < 19
        · match i1, HD2, HIJ with
          | 0, HD2, HIJ =>
            go_wp2_with fail
            have hij := HIJ.out
            have hip := HIP.out
            refine ⟨⟨0, qn, Nat.zero_le _, rfl, rfl, ?_, HW2.out, HD2.out, HB2.out⟩, ?_⟩
            · have hlow := quo_low (V := V) (m := N - i) (i := i) HV0.out (by rw [show N - i + i = N by omega]; exact HV.out) (by omega)
              rw [A3.out, HVAL.out, hlow, Nat.sub_zero, Int.ediv_eq_zero_of_lt HV0.out HV.out]
            · simp only [intOf]
              omega
          | i2 + 1, HD2, HIJ =>
            have hi2N : i2 < N := by have := HIJ.out; omega
            obtain ⟨⟨v0, hv0⟩, hf0⟩ := ds_cell HD2.out (t := i2) hi2N
            obtain ⟨y, hy⟩ : ∃ y, y = R / 10 ^ j := ⟨_, rfl⟩
            have hyr : 0 ≤ y ∧ y < 10000000000000000000 := by
              rw [hy]
              have h1 := HRR.out
              exact ⟨Int.ediv_nonneg h1.1 (Int.le_of_lt (pow10_pos j)), Int.lt_of_le_of_lt (Int.ediv_le_self _ h1.1) h1.2⟩
            have hfig : 48 + (y - y / 10 * 10) = fig V (N - 1 - i2) := by
              have e1 : y - y / 10 * 10 = y % 10 := by omega
              have e2 : N - 1 - i2 = (N - i) + j := by have := HIJ.out; omega
              unfold fig
              rw [e1, hy, HR.out, HVAL.out, rest_fig _ (Int.ediv_nonneg HV0.out (Int.le_of_lt (pow10_pos _))) j hj19, div_div10, ← e2]
            have HF := Lib.hid hfig
            have HY := Lib.hid hy
            rw [← hy]
            have e1 : ((i2 + 1 : Nat) : Int) - 1 = (i2 : Int) := by omega
            clear hy hfig
            go_wp2_with fail
            have hij := HIJ.out
            have hst := ds_step (i := i2) HD2.out (by omega) HF.out
            refine ⟨⟨j + 1, i2, by omega, by omega, by rw [Int.natCast_add]; rfl, rfl, ?_, hst, ws_set HW2.out HB.out.2.2 _, HB2.out.setCell HB.out.2.1 HSS.out.2.2 _⟩, ?_⟩
            · have e3 : y / 10 = R / 10 ^ j / 10 ^ 1 := by rw [HY.out]; rfl
              rw [e3, div_div10]
            · have e2 : ((j : Int) + 1).toNat = j + 1 := by omega
              simp only [intOf, Int.toNat_natCast, e2]
              omega
        · obtain rfl : j = 19 := by omega
          go_wp2_with fail
          have hij := HIJ.out
          refine ⟨⟨i1, qn, by omega, rfl, rfl, ?_, HW2.out, HD2.out, HB2.out⟩, ?_⟩
          · have e3 : (10000000000000000000 : Int) = 10 ^ 19 := by decide
            rw [A3.out, HVAL.out, e3, div_div10, show N - i + 19 = N - i1 by omega]
          · simp only [intOf, Int.toNat_natCast]
            omega
    · obtain rfl : k = 0 := by omega
      have hq0 : V / 10 ^ (N - i) = 0 := by
        have := HVAL.out
        rw [← this, List.eq_nil_of_length_eq_zero hk.symm]; rfl
      have HQ0 := Lib.hid hq0
      clear hq0 hk0 hk
      go_wp2_with fail
      go_loopw [19] (fun v19 wr2 => ∃ i2 : Nat, i2 ≤ N ∧ v19 = .int .i64 i2 ∧ V / 10 ^ (N - i2) = 0 ∧ DS V N h i2 wr2 ∧ BK B S w wr2) (fun v19 _ => (intOf v19).toNat)
      case atStart => exact ⟨i, hi, rfl, HQ0.out, HDS.out, HBEL.out⟩
      case round =>
        obtain ⟨i2, hi2, rfl, hz, hds2, hbel2⟩ := hrel
        have HZ := Lib.hid hz
        have HD2 := Lib.hid hds2
        have HB2 := Lib.hid hbel2
        clear hz hds2 hbel2
        match i2, hi2, HZ, HD2 with
        | 0, hi2, HZ, HD2 =>
          go_wp2_with fail
          go_end0
          exact ⟨rfl, HD2.out, HB2.out⟩
        | i3 + 1, hi2, HZ, HD2 =>
          obtain ⟨⟨v0, hv0⟩, hf0⟩ := ds_cell HD2.out (t := i3) (by omega)
          have hst := ds_step HD2.out hi2 (x := 48) (by
            unfold fig
            have := HZ.out
            rw [show N - (i3 + 1) = N - 1 - i3 by omega] at this
            rw [this]; rfl)
          have hz3 : V / 10 ^ (N - i3) = 0 := by
            have e : N - i3 = N - (i3 + 1) + 1 := by omega
            rw [e, ← div_div10, HZ.out]; rfl
          have HST := Lib.hid hst
          have HZ3 := Lib.hid hz3
          have e1 : ((i3 + 1 : Nat) : Int) - 1 = (i3 : Int) := by omega
          have hb3 := HB2.out.setCell (i := i3) HB.out.2.1 HSS.out.2.2 (.int .u8 48)
          have HB3 := Lib.hid hb3
          clear hst hz3 hb3
          go_wp2_with fail
          refine ⟨⟨i3, by omega, rfl, HZ3.out, HST.out, HB3.out⟩, ?_⟩
          simp only [intOf]
          omega
end Go.Proofs.YtdfcomilhjoooaaGreatDoor.Div
