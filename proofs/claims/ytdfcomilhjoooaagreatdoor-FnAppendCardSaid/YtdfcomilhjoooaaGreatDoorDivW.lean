/- bigall.divWVW and nat.divW by ten to the nineteenth, into the number's own words. -/
import Derived.Test.YtdfcomilhjoooaaGreatDoorRecip
import Derived.Test.YtdfcomilhjoooaaGreatDoorNum
import Derived.Test.YtdfcomilhjoooaaGreatDoorBase6
namespace Go.Proofs.YtdfcomilhjoooaaGreatDoor.Div
open Go.RowKit Go.Proofs.YtdfcomilhjoooaaGreatDoorW.PrintWords Go.Proofs.YtdfcomilhjoooaaGreatDoor.Base Go.Proofs.YtdfcomilhjoooaaGreatDoor.Num
set_option linter.unusedVariables false

/-- the words from i on are divided -/
def QS (l : List Int) (g cap : Nat) (w : World) (i : Nat) (ql : List Int) (wr : World) : Prop :=
  ∃ cur : Array Value, wr.heap[g]? = some (.cells cur 74 (0, 0)) ∧ cur.size = cap ∧ ql.length + i = l.length ∧ (∀ j, j < i → cur[j]? = some (.int .u64 (l.getD j 0))) ∧ (∀ j, j < ql.length → cur[i + j]? = some (.int .u64 (ql.getD j 0))) ∧
    Dig 18446744073709551616 ql ∧ val 18446744073709551616 ql = val 18446744073709551616 (l.drop i) / 10000000000000000000 ∧ But g w wr
theorem val_drop {l : List Int} {i : Nat} (h : i < l.length) : val 18446744073709551616 (l.drop i) = l.getD i 0 + 18446744073709551616 * val 18446744073709551616 (l.drop (i + 1)) := by
  rw [List.drop_eq_getElem_cons h]
  simp [val, List.getD_eq_getElem?_getD, h]
theorem step_val (x V Q r : Int) (hV : V = 10000000000000000000 * Q + r) (hr0 : 0 ≤ r) (hr1 : r < 10000000000000000000) (hx0 : 0 ≤ x) (hx1 : x < 18446744073709551616) :
    (x + 18446744073709551616 * V) / 10000000000000000000 = (r * 18446744073709551616 + x) / 10000000000000000000 + 18446744073709551616 * Q ∧ (x + 18446744073709551616 * V) % 10000000000000000000 = (r * 18446744073709551616 + x) % 10000000000000000000 := by
  subst hV
  have e : x + 18446744073709551616 * (10000000000000000000 * Q + r) = (r * 18446744073709551616 + x) + 10000000000000000000 * (18446744073709551616 * Q) := by omega
  rw [e]
  constructor
  · rw [Int.add_mul_ediv_left _ _ (by decide)]
  · rw [Int.add_mul_emod_self_left]
theorem qs_zero {l : List Int} {g cap : Nat} {w : World} {cur : Array Value} (hg : w.heap[g]? = some (.cells cur 74 (0, 0))) (hs : cur.size = cap) (hc : ∀ j, j < l.length → cur[j]? = some (.int .u64 (l.getD j 0))) : QS l g cap w l.length [] w :=
  ⟨cur, hg, hs, by simp, hc, fun j h => absurd h (Nat.not_lt_zero j), fun _ h => (by cases h), (by rw [List.drop_length]; rfl), But.refl g w⟩
theorem qs_cell {l : List Int} {g cap i : Nat} {w wr : World} {ql : List Int} (h : QS l g cap w (i + 1) ql wr) : wr.cell? ⟨g, i, none⟩ = some (.int .u64 (l.getD i 0)) ∧ wr.frozen? ⟨g, i, none⟩ = false := by
  obtain ⟨cur, h1, _, _, h4, _⟩ := h
  exact ⟨(blk_cell h1 i).trans (h4 i (by omega)), blk_frozen h1 i⟩
theorem qs_step {l : List Int} {g cap i : Nat} {w wr : World} {ql : List Int} {q : Int} (h : QS l g cap w (i + 1) ql wr) (hd : Dig 18446744073709551616 l) (hq : q = ((val 18446744073709551616 (l.drop (i + 1)) % 10000000000000000000) * 18446744073709551616 + l.getD i 0) / 10000000000000000000) :
    QS l g cap w i (q :: ql) (wr.setCell ⟨g, i, none⟩ (.int .u64 q)) ∧ val 18446744073709551616 (l.drop i) % 10000000000000000000 = ((val 18446744073709551616 (l.drop (i + 1)) % 10000000000000000000) * 18446744073709551616 + l.getD i 0) % 10000000000000000000 := by
  obtain ⟨cur, h1, h2, h3, h4, h5, h6, h7, h8⟩ := h
  have hi : i < l.length := by omega
  have hm0 : 0 ≤ val 18446744073709551616 (l.drop (i + 1)) % 10000000000000000000 ∧ val 18446744073709551616 (l.drop (i + 1)) % 10000000000000000000 < 10000000000000000000 := by omega
  have hx := hd.getD (by decide) i
  have hV := val_drop hi
  have hV0 := val_nonneg (B := 18446744073709551616) (by decide) (fun x hx => hd x (List.mem_of_mem_drop hx) : Dig 18446744073709551616 (l.drop (i + 1)))
  have st := step_val (l.getD i 0) (val 18446744073709551616 (l.drop (i + 1))) (val 18446744073709551616 (l.drop (i + 1)) / 10000000000000000000) (val 18446744073709551616 (l.drop (i + 1)) % 10000000000000000000) (by omega) (by omega) (by omega) hx.1 hx.2
  rw [← hV] at st
  have hisz : i < cur.size := by
    have := h4 i (by omega)
    exact (Array.getElem?_eq_some_iff.1 this).1
  refine ⟨⟨_, blk_set h1 i _, by simp [h2], by simp; omega, fun j hj => ?_, fun j hj => ?_, ?_, ?_, h8.set i _⟩, st.2⟩
  · rw [Array.getElem?_setIfInBounds_ne (by omega)]; exact h4 j (by omega)
  · match j, hj with
    | 0, _ => exact Array.getElem?_setIfInBounds_self_of_lt hisz
    | j + 1, hj =>
      rw [Array.getElem?_setIfInBounds_ne (by omega), show i + (j + 1) = i + 1 + j by omega, h5 j (by simpa using hj)]
      rfl
  · intro x hx2
    rcases List.mem_cons.1 hx2 with rfl | hx2
    · subst hq
      have : 0 ≤ val 18446744073709551616 (l.drop (i + 1)) % 10000000000000000000 ∧ val 18446744073709551616 (l.drop (i + 1)) % 10000000000000000000 < 10000000000000000000 := by omega
      constructor <;> omega
    · exact h6 x hx2
  · show q + 18446744073709551616 * val 18446744073709551616 ql = _
    rw [h7, st.1, hq]
theorem qs_reads {l : List Int} {g cap : Nat} {w wr : World} {ql : List Int} (h : QS l g cap w 0 ql wr) (hl : l.length ≤ 1000) : ReadsInt wr .u64 (some ⟨g, 0, none⟩) ql.length ql := by
  obtain ⟨cur, h1, h2, h3, h4, h5, _⟩ := h
  refine ⟨rfl, by omega, fun _ => ⟨_, rfl, fun j hj => ?_⟩⟩
  have e : (⟨g, 0, none⟩ : Addr).add j = ⟨g, 0 + j, none⟩ := by by_cases h : j = 0 <;> simp [Addr.add, h]
  rw [e]
  exact (blk_cell h1 _).trans (h5 j hj)
theorem but_drewN' {b : Nat} {w w1 : World} (h : But b w w1) (n : Nat) : But b w (w1.drewN n) := ⟨h.os, h.tape, h.output, h.size, h.block⟩
theorem qs_drewN {l : List Int} {g cap i : Nat} {w wr : World} {ql : List Int} (h : QS l g cap w i ql wr) (n : Nat) : QS l g cap w i ql (wr.drewN n) := by
  obtain ⟨cur, h1, h2, h3, h4, h5, h6, h7, h8⟩ := h
  exact ⟨cur, h1, h2, h3, h4, h5, h6, h7, but_drewN' h8 n⟩

/-- what divWVW gives -/
def WvOut (l : List Int) (g cap : Nat) (w : World) (e : Ending) (w' : World) : Prop := ∃ ql, e = .returned (.int .u64 (val 18446744073709551616 l % 10000000000000000000)) ∧ QS l g cap w 0 ql w'

set_option maxRecDepth 100000 in
set_option maxHeartbeats 4000000 in
theorem divWVW_c (g cap : Nat) (l : List Int) (h0 : 0 < l.length) (hl : l.length ≤ 100) (hcap : l.length ≤ cap) (hd : Dig 18446744073709551616 l) (cur : Array Value) (w : World) (hg : w.heap[g]? = some (.cells cur 74 (0, 0))) (hs : cur.size = cap)
    (hc : ∀ j, j < l.length → cur[j]? = some (.int .u64 (l.getD j 0))) :
    Calls Tryz.prog 112 #[.slice (some ⟨g, 0, none⟩) l.length cap, .int .u64 0, .slice (some ⟨g, 0, none⟩) l.length cap, .int .u64 10000000000000000000] w fun e w' => WvOut l g cap w e w' := by
  have HQ := Lib.hid (qs_zero (l := l) hg hs hc)
  have HD := Lib.hid hd
  by_cases h1 : l.length = 1
  · obtain ⟨x, rfl⟩ := List.length_eq_one_iff.1 h1
    have hx := hd.getD (by decide) 0
    have hq := qs_cell HQ.out
    have hx0 : 0 ≤ x ∧ x < 18446744073709551616 := hx
    have hcell : w.cell? ⟨g, 0, none⟩ = some (.int .u64 x) := hq.1
    have hfr := hq.2
    have HDL := Lib.hid (div_low x hx0 w)
    have hw1 : IntKind.u64.wrap (x / 10000000000000000000) = x / 10000000000000000000 := wrapu (by omega) (by omega)
    have hw2 : IntKind.u64.wrap (x % 10000000000000000000) = x % 10000000000000000000 := wrapu (by omega) (by omega)
    have HST := Lib.hid (fun (nd : Nat) => (qs_step (i := 0) (q := x / 10000000000000000000) (qs_drewN HQ.out nd) hd (by simp [val])).1)
    have HV : Hid (x % 10000000000000000000 = val 18446744073709551616 [x] % 10000000000000000000) := Lib.hid (by simp [val])
    clear hq hx hx0 hg hs hc hd h0 h1 hl
    generalize hqq : x / 10000000000000000000 = q at hw1 HST
    generalize hrr : x % 10000000000000000000 = r at hw2 HV
    have HQQ := Lib.hid hqq
    have HRR := Lib.hid hrr
    clear hqq hrr
    go_enter Tryz.func112, Tryz.ntmps112
    go_wp2_with fail
    refine HDL.out.mono ?_
    rintro e w' ⟨rfl, nd, rfl⟩
    rw [HQQ.out, HRR.out]
    have hcell' : (w.drewN nd).cell? ⟨g, 0, none⟩ = some (.int .u64 x) := hcell
    have hfr' : (w.drewN nd).frozen? ⟨g, 0, none⟩ = false := hfr
    go_wp2_with fail
    go_ret
    exact ⟨[q], by rw [← HV.out]; rfl, HST.out nd⟩
  · obtain ⟨n, hn⟩ : ∃ n, n = l.length := ⟨_, rfl⟩
    rw [← hn] at hcap hl h0 h1 ⊢
    have HN := Lib.hid hn
    have hb1 : ((n : Int) == 1) = false := by simp; omega
    clear hg hs hc hd hn
    go_enter Tryz.func112, Tryz.ntmps112
    go_wp2_with fail
    refine (recip_ten w).mono ?_
    rintro e w' ⟨rfl, rfl⟩
    have hm1 : ((n : Int) - 1) = ((n - 1 : Nat) : Int) := by omega
    go_wp2_with fail
    go_loopw [8, 12] (fun v8 v12 wr => ∃ (i : Nat) (ql : List Int), i ≤ n ∧ v12 = .int .i64 ((i : Int) - 1) ∧ v8 = .int .u64 (val 18446744073709551616 (l.drop i) % 10000000000000000000) ∧ QS l g cap w i ql wr) (fun _ v12 _ => (intOf v12 + 1).toNat)
    case atStart => exact ⟨n, [], Nat.le_refl _, by rw [hm1], by rw [HN.out, List.drop_length]; rfl, by rw [HN.out]; exact HQ.out⟩
    case round =>
      obtain ⟨i, ql, hi, rfl, rfl, hqs⟩ := hrel
      have HS := Lib.hid hqs
      clear hqs
      match i, hi, HS with
      | 0, hi, HS =>
        go_wp2_with fail
        go_ret
        exact ⟨ql, rfl, HS.out⟩
      | i + 1, hi, HS =>
        obtain ⟨hcell, hfr⟩ := qs_cell HS.out
        have hx := HD.out.getD (by decide) i
        obtain ⟨x, hxe⟩ : ∃ x, x = l.getD i 0 := ⟨_, rfl⟩
        obtain ⟨r, hre⟩ : ∃ r, r = val 18446744073709551616 (l.drop (i + 1)) % 10000000000000000000 := ⟨_, rfl⟩
        rw [← hxe] at hcell hx
        rw [← hre]
        have hr : 0 ≤ r ∧ r < 10000000000000000000 := by omega
        have HDW := Lib.hid (divWW_c r x (r * 18446744073709551616 + x) rfl hr hx wr)
        have HST := Lib.hid (qs_step HS.out HD.out (q := (r * 18446744073709551616 + x) / 10000000000000000000) (by rw [hre, hxe]))
        have e1 : ((i + 1 : Nat) : Int) - 1 = (i : Int) := by omega
        obtain ⟨V, hVe⟩ : ∃ V, V = r * 18446744073709551616 + x := ⟨_, rfl⟩
        rw [← hVe] at HDW HST
        obtain ⟨Q, hQ⟩ : ∃ Q, Q = V / 10000000000000000000 := ⟨_, rfl⟩
        obtain ⟨R, hR⟩ : ∃ R, R = V % 10000000000000000000 := ⟨_, rfl⟩
        have hQ2 : 0 ≤ Q ∧ Q < 18446744073709551616 := by omega
        rw [← hQ] at HST
        have HQQ := Lib.hid hQ
        have HRR := Lib.hid hR
        have hREL : val 18446744073709551616 (l.drop i) % 10000000000000000000 = R := by rw [HST.out.2, ← hxe, ← hre, ← hVe, hR]
        have HREL := Lib.hid hREL
        have hwq : IntKind.u64.wrap Q = Q := wrapu hQ2.1 hQ2.2
        clear hr hx hQ hR hVe hQ2 hREL hxe hre
        go_wp2_with fail
        refine HDW.out.mono ?_
        rintro e w' ⟨rfl, rfl⟩
        rw [← HQQ.out, ← HRR.out]
        go_wp2_with fail
        refine ⟨⟨i, Q :: ql, by omega, ?_, by rw [HREL.out], HST.out.1⟩, ?_⟩
        · have e2 : ((i + 1 : Nat) : Int) - 1 - 1 = (i : Int) - 1 := by omega
          first | rfl | (rw [← e2]; rfl) | (rw [e1])
        · simp only [intOf]
          omega
/-- what divW gives: the quotient's words, noughts at the end left out -/
def DwOut (l : List Int) (g cap : Nat) (w : World) (e : Ending) (w' : World) : Prop := ∃ ql, e = .returned (.tuple #[.slice (some ⟨g, 0, none⟩) (nlTo ql ql.length) cap, .int .u64 (val 18446744073709551616 l % 10000000000000000000)]) ∧ QS l g cap w 0 ql w'
set_option maxRecDepth 100000 in
set_option maxHeartbeats 4000000 in
theorem divW_c (g cap : Nat) (l : List Int) (h0 : 0 < l.length) (hl : l.length ≤ 100) (hcap : l.length ≤ cap) (hcm : cap ≤ 1000) (hd : Dig 18446744073709551616 l) (cur : Array Value) (w : World) (hg : w.heap[g]? = some (.cells cur 74 (0, 0))) (hs : cur.size = cap)
    (hc : ∀ j, j < l.length → cur[j]? = some (.int .u64 (l.getD j 0))) :
    Calls Tryz.prog 83 #[.slice (some ⟨g, 0, none⟩) l.length cap, .slice (some ⟨g, 0, none⟩) l.length cap, .int .u64 10000000000000000000] w fun e w' => DwOut l g cap w e w' := by
  have HWV := Lib.hid (divWVW_c g cap l h0 hl hcap hd cur w hg hs hc)
  have HMK := Lib.hid (make_re (some ⟨g, 0, none⟩) l.length cap l.length hcap (by omega) (fun h => by cases h) w)
  have HNM : Hid (∀ ql w1, QS l g cap w 0 ql w1 → Calls Tryz.prog 45 #[.slice (some ⟨g, 0, none⟩) l.length cap] w1 fun e w' => e = .returned (.slice (some ⟨g, 0, none⟩) (nlTo ql ql.length) cap) ∧ w1 = w') := Lib.hid (fun ql w1 h => by
    have hl2 : ql.length = l.length := by obtain ⟨_, _, _, h3, _⟩ := h; omega
    have := norm_any (some ⟨g, 0, none⟩) cap ql (by omega) (by omega) (by omega) (fun h => by cases h) w1 (qs_reads h (by omega))
    rw [hl2] at this ⊢
    exact this)
  obtain ⟨n, hn⟩ : ∃ n, n = l.length := ⟨_, rfl⟩
  rw [← hn] at HWV HMK HNM h0 hl ⊢
  have hb0 : ((n : Int) == 0) = false := by simp; omega
  clear hg hs hc hd hn hcap
  go_enter Tryz.func83, Tryz.ntmps83
  go_wp2_with fail
  refine HMK.out.mono ?_
  rintro e w' ⟨rfl, rfl⟩
  go_wp2_with fail
  refine HWV.out.mono ?_
  rintro e w1 ⟨ql, rfl, hq⟩
  have HQ := Lib.hid hq
  clear hq
  go_wp2_with fail
  refine (HNM.out ql w1 HQ.out).mono ?_
  rintro e w' ⟨rfl, rfl⟩
  go_wp2_with fail
  go_ret2
  exact ⟨ql, rfl, HQ.out⟩
end Go.Proofs.YtdfcomilhjoooaaGreatDoor.Div
