/- fmtF: the figures with a point and noughts. -/
import Derived.Test.YtdfcomilhjoooaaGreatDoorFm
namespace Go.Proofs.YtdfcomilhjoooaaGreatDoor.Div
open Go.RowKit Go.Proofs.YtdfcomilhjoooaaGreatDoorW.PrintWords Go.Proofs.YtdfcomilhjoooaaGreatDoor.Base Go.Proofs.YtdfcomilhjoooaaGreatDoor.Num Go.Proofs.YtdfcomilhjoooaaGreatDoor.Flo Go.Proofs.YtdfcomilhjoooaaGreatDoor.Byt
set_option linter.unusedVariables false

def fF (ex : Int) (dl : List Int) : List Int :=
  if ex < 0 then (if dl.length ≤ (-ex).toNat then [48, 46] ++ List.replicate ((-ex).toNat - dl.length) 48 ++ dl else dl.take (dl.length - (-ex).toNat) ++ [46] ++ dl.drop (dl.length - (-ex).toNat))
  else dl ++ List.replicate ex.toNat 48
theorem rep_snoc (bs : List Int) (k : Nat) : bs ++ List.replicate k 48 ++ [48] = bs ++ List.replicate (k + 1) 48 := by
  rw [List.append_assoc, ← List.replicate_succ']
theorem Fm.cast {g0 : Nat} {w0 w : World} {v : Value} {bs bs' : List Int} (h : Fm g0 w0 v bs w) (e : bs = bs') : Fm g0 w0 v bs' w := e ▸ h

set_option maxRecDepth 100000 in
set_option maxHeartbeats 4000000 in
theorem fmtF_pos (g0 D t cd n : Nat) (v : Value) (bs dl : List Int) (ad : Addr) (cs : Array Value) (w : World) (hf : Fm g0 w v bs w) (hr : ReadsInt w .u8 (some ad) dl.length dl) (hlt : ad.block < w.heap.size) (had : ad.block ≠ g0)
    (hD : w.heap[D]? = some (.cells cs t (0, 0))) (hDe : cs[2]? = some (.int .i32 n)) (hDn : D ≠ g0) (hn : n ≤ 100) (hdl : dl.length ≤ 200) (hbs : bs.length ≤ 1000) :
    Calls Tryz.prog 23 #[v, .pointer (some ⟨D, 0, none⟩), .slice (some ad) dl.length cd] w fun e w' => ∃ v', e = .returned v' ∧ Fm g0 w v' (bs ++ (dl ++ List.replicate n 48)) w' := by
  obtain ⟨i0, hi, hz0, hz1, hz2⟩ := info_parts infoB
  have X2 : w.cell? ⟨D, 2, none⟩ = some (.int .i32 n) := (blk_cell hD 2).trans hDe
  obtain ⟨m, hm⟩ : ∃ m, m = dl.length := ⟨_, rfl⟩
  obtain ⟨g, c, rfl⟩ := hf.sh
  obtain ⟨nb, hnb⟩ : ∃ nb, nb = bs.length := ⟨_, rfl⟩
  rw [← hnb] at hf ⊢
  have HF := Lib.hid hf
  have HSR : Hid (Src Tryz.prog 1 22 (.slice (some ad) m cd) dl.length (nums .u8 dl) w) := Lib.hid (by rw [hm]; exact src_slice Tryz.underlying22 hr)
  have HM := Lib.hid hm
  have HD := Lib.hid (⟨hD, hDe, hDn⟩ : w.heap[D]? = some (.cells cs t (0, 0)) ∧ cs[2]? = some (.int .i32 n) ∧ D ≠ g0)
  have HB := Lib.hid (⟨hdl, hbs⟩ : dl.length ≤ 200 ∧ bs.length ≤ 1000)
  rw [← hm]
  clear hf hr hlt had hD hDe hDn hm hdl hbs hnb
  have hn2 : ¬ ((n : Int) < 0) := by omega
  have hn3 : (0 : Int) ≤ (n : Int) := by omega
  go_enter Tryz.func23, Tryz.ntmps23
  go_wp2_with (at_builtin; refine wpList_append_fm HF.out dl rfl _ _ 22 22 rfl 5 i0 Tryz.underlying22 hi hz0 hz1 hz2 rfl _ rfl HSR.out (by have := HB.out; omega) ?_)
  intro v1 w1 hf1
  have HF1 := Lib.hid hf1
  obtain ⟨g1, c1, hv1⟩ := hf1.sh
  clear hf1 X2 HF HSR
  go_wp2_with fail
  go_loopw [0, 10] (fun v0 v10 wr => ∃ k : Nat, k ≤ n ∧ v10 = .int .i32 k ∧ Fm g0 w v0 (bs ++ dl ++ List.replicate k 48) wr) (fun _ v10 _ => n - (intOf v10).toNat)
  case atStart => exact ⟨0, Nat.zero_le _, rfl, by rw [List.replicate_zero, List.append_nil]; exact HF1.out⟩
  case round =>
    obtain ⟨k, hk, rfl, hfk⟩ := hrel
    have Y2 : wr.cell? ⟨D, 2, none⟩ = some (.int .i32 n) := (blk_cell (hfk.oldb HD.out.1 HD.out.2.2) 2).trans HD.out.2.1
    obtain ⟨gk, ck, rfl⟩ := hfk.sh
    have HFK := Lib.hid hfk
    have HL : Hid ((bs ++ dl ++ List.replicate k 48).length ≤ 1300) := Lib.hid (by have := HB.out; simp only [List.length_append, List.length_replicate]; omega)
    clear hfk HF1 hv1
    obtain ⟨nk, hnk⟩ : ∃ nk, nk = (bs ++ dl ++ List.replicate k 48).length := ⟨_, rfl⟩
    have HNK := Lib.hid hnk
    rw [← hnk] at HFK ⊢
    clear hnk
    by_cases hkn : k < n
    · have hk2 : (k : Int) < (n : Int) := by omega
      have hk6 : n - (k + 1) < n - k := by omega
      have hk7 : ((k : Int) + 1).toNat = k + 1 := by omega
      go_wp2_with (at_builtin; refine wpList_append_fm (HFK.out.alloc _) [48] rfl _ _ 22 22 rfl 5 i0 Tryz.underlying22 hi hz0 hz1 hz2 rfl _ rfl (src_one Tryz.underlying22 48 _) (by have := HL.out; simp only [List.length_cons, List.length_nil]; omega) ?_)
      intro v2 w2 hf2
      have HF2 : Hid (Fm g0 w v2 (bs ++ dl ++ List.replicate (k + 1) 48) w2) := Lib.hid (by rw [← rep_snoc]; simpa only [List.append_assoc] using hf2)
      clear hf2 Y2
      go_wp2_with fail
      go_roundw
      case rel => exact ⟨k + 1, hkn, by go_num, HF2.out⟩
      case measure => simp only [intOf, Int.toNat_natCast, hk7]; exact hk6
    · obtain rfl : k = n := by omega
      have hkk : ¬ ((k : Int) < (k : Int)) := by omega
      go_wp2_with fail
      go_ret
      exact ⟨_, rfl, HFK.out.cast (List.append_assoc _ _ _)⟩

theorem src_pt {P : Program} {w : World} {tx : TypeId} (hk : P.underlying tx = some .string) : Src P 1 tx (.string ⟨#[48, 46]⟩) 2 (nums .u8 [48, 46]) w := Src.ofString w hk ⟨#[48, 46]⟩
set_option maxRecDepth 100000 in
set_option maxHeartbeats 4000000 in
theorem fmtF_neg1 (g0 D t cd n : Nat) (v : Value) (bs dl : List Int) (ad : Addr) (cs : Array Value) (w : World) (hf : Fm g0 w v bs w) (hr : ReadsInt w .u8 (some ad) dl.length dl) (hlt : ad.block < w.heap.size) (had : ad.block ≠ g0)
    (hD : w.heap[D]? = some (.cells cs t (0, 0))) (hDe : cs[2]? = some (.int .i32 (-(n : Int)))) (hDn : D ≠ g0) (hn0 : 0 < n) (hn : n ≤ 100) (hdl : dl.length ≤ n) (hbs : bs.length ≤ 1000) :
    Calls Tryz.prog 23 #[v, .pointer (some ⟨D, 0, none⟩), .slice (some ad) dl.length cd] w fun e w' => ∃ v', e = .returned v' ∧ Fm g0 w v' (bs ++ ([48, 46] ++ List.replicate (n - dl.length) 48 ++ dl)) w' := by
  obtain ⟨i0, hi, hz0, hz1, hz2⟩ := info_parts infoB
  have X2 : w.cell? ⟨D, 2, none⟩ = some (.int .i32 (-(n : Int))) := (blk_cell hD 2).trans hDe
  obtain ⟨m, hm⟩ : ∃ m, m = dl.length := ⟨_, rfl⟩
  obtain ⟨L, hL⟩ : ∃ L, n = m + L := ⟨n - m, by omega⟩
  obtain ⟨g, c, rfl⟩ := hf.sh
  obtain ⟨nb, hnb⟩ : ∃ nb, nb = bs.length := ⟨_, rfl⟩
  rw [← hnb] at hf ⊢
  have HF := Lib.hid hf
  have HDG : Hid (∀ v bs' w', Fm g0 w v bs' w' → Src Tryz.prog 1 22 (.slice (some ad) m cd) dl.length (nums .u8 dl) w') := Lib.hid (fun v bs' w' h => by rw [hm]; exact src_slice Tryz.underlying22 (h.dig hr hlt had))
  have HM := Lib.hid hm
  have HB := Lib.hid (⟨hdl, hbs⟩ : dl.length ≤ n ∧ bs.length ≤ 1000)
  have hnL : n - m = L := by omega
  rw [← hm, hnL]
  clear hf hr hlt had hD hDe hDn hm hdl hbs hnb hnL
  have hn2 : (-(n : Int)) < 0 := by omega
  have hL1 : (0 : Int) ≤ (L : Int) := by omega
  have hL2 : (n : Int) - (m : Int) = (L : Int) := by omega
  have hm2 : m ≤ 100 := by omega
  clear hL
  go_enter Tryz.func23, Tryz.ntmps23
  go_wp2_with (at_builtin; refine wpList_append_fm HF.out [48, 46] rfl _ _ 22 9 rfl 5 i0 Tryz.underlying22 hi hz0 hz1 hz2 rfl _ rfl (src_pt Tryz.underlying9) (by have := HB.out; simp only [List.length_cons, List.length_nil]; omega) ?_)
  intro v1 w1 hf1
  have HF1 := Lib.hid hf1
  obtain ⟨g1, c1, hv1⟩ := hf1.sh
  clear hf1 X2 HF
  go_wp2_with fail
  go_loopw [0, 8] (fun v0 v8 wr => ∃ k : Nat, k ≤ L ∧ v8 = .int .i64 k ∧ Fm g0 w v0 (bs ++ [48, 46] ++ List.replicate k 48) wr) (fun _ v8 _ => L - (intOf v8).toNat)
  case atStart => exact ⟨0, Nat.zero_le _, rfl, by rw [List.replicate_zero, List.append_nil]; exact HF1.out⟩
  case round =>
    obtain ⟨k, hk, rfl, hfk⟩ := hrel
    obtain ⟨gk, ck, rfl⟩ := hfk.sh
    have HFK := Lib.hid hfk
    have HL : Hid ((bs ++ [48, 46] ++ List.replicate k 48).length ≤ 1300) := Lib.hid (by have := HB.out; simp only [List.length_append, List.length_replicate, List.length_cons, List.length_nil]; omega)
    clear hfk HF1 hv1
    obtain ⟨nk, hnk⟩ : ∃ nk, nk = (bs ++ [48, 46] ++ List.replicate k 48).length := ⟨_, rfl⟩
    have HNK := Lib.hid hnk
    rw [← hnk] at HFK ⊢
    clear hnk
    by_cases hkn : k < L
    · have hk2 : (k : Int) < (L : Int) := by omega
      have hk6 : L - (k + 1) < L - k := by omega
      have hk7 : ((k : Int) + 1).toNat = k + 1 := by omega
      go_wp2_with (at_builtin; refine wpList_append_fm (HFK.out.alloc _) [48] rfl _ _ 22 22 rfl 5 i0 Tryz.underlying22 hi hz0 hz1 hz2 rfl _ rfl (src_one Tryz.underlying22 48 _) (by have := HL.out; simp only [List.length_cons, List.length_nil]; omega) ?_)
      intro v2 w2 hf2
      have HF2 : Hid (Fm g0 w v2 (bs ++ [48, 46] ++ List.replicate (k + 1) 48) w2) := Lib.hid (by rw [← rep_snoc]; simpa [List.append_assoc] using hf2)
      clear hf2
      go_wp2_with fail
      go_roundw
      case rel => exact ⟨k + 1, hkn, by go_num, HF2.out⟩
      case measure => simp only [intOf, Int.toNat_natCast, hk7]; exact hk6
    · obtain rfl : k = L := by omega
      have hkk : ¬ ((k : Int) < (k : Int)) := by omega
      go_wp2_with (at_builtin; refine wpList_append_fm HFK.out dl rfl _ _ 22 22 rfl 5 i0 Tryz.underlying22 hi hz0 hz1 hz2 rfl _ rfl (HDG.out _ _ _ HFK.out) (by have := HL.out; have := HB.out; omega) ?_)
      intro v2 w2 hf2
      have HF2 : Hid (Fm g0 w v2 (bs ++ ([48, 46] ++ List.replicate k 48 ++ dl)) w2) := Lib.hid (by simpa [List.append_assoc] using hf2)
      clear hf2
      go_wp2_with fail
      go_ret
      exact ⟨_, rfl, HF2.out⟩

set_option maxRecDepth 100000 in
set_option maxHeartbeats 4000000 in
theorem fmtF_neg2 (g0 D t cd n : Nat) (v : Value) (bs dl : List Int) (ad : Addr) (cs : Array Value) (w : World) (hf : Fm g0 w v bs w) (hr : ReadsInt w .u8 (some ad) dl.length dl) (hlt : ad.block < w.heap.size) (had : ad.block ≠ g0)
    (hD : w.heap[D]? = some (.cells cs t (0, 0))) (hDe : cs[2]? = some (.int .i32 (-(n : Int)))) (hDn : D ≠ g0) (hn0 : 0 < n) (hdl : n < dl.length) (hdc : dl.length ≤ cd) (hdm : dl.length ≤ 200) (hbs : bs.length ≤ 1000) :
    Calls Tryz.prog 23 #[v, .pointer (some ⟨D, 0, none⟩), .slice (some ad) dl.length cd] w fun e w' => ∃ v', e = .returned v' ∧ Fm g0 w v' (bs ++ (dl.take (dl.length - n) ++ [46] ++ dl.drop (dl.length - n))) w' := by
  obtain ⟨i0, hi, hz0, hz1, hz2⟩ := info_parts infoB
  have X2 : w.cell? ⟨D, 2, none⟩ = some (.int .i32 (-(n : Int))) := (blk_cell hD 2).trans hDe
  obtain ⟨m, hm⟩ : ∃ m, m = dl.length := ⟨_, rfl⟩
  obtain ⟨L, hL⟩ : ∃ L, m = n + L := ⟨m - n, by omega⟩
  obtain ⟨g, c, rfl⟩ := hf.sh
  obtain ⟨nb, hnb⟩ : ∃ nb, nb = bs.length := ⟨_, rfl⟩
  rw [← hnb] at hf ⊢
  have HF := Lib.hid hf
  have hL0 : 0 < L := by omega
  have HDG : Hid (∀ v bs' w' i k, Fm g0 w v bs' w' → i + k ≤ m → 0 < k → ∀ k', k' = k → ∀ c, Src Tryz.prog 1 22 (.slice (some (ad.add i)) k' c) ((dl.drop i).take k).length (nums .u8 ((dl.drop i).take k)) w') := Lib.hid (fun v bs' w' i k h h1 h2 k' e c => by
    have h3 := part_at (h.dig hr hlt had) i k (by omega) h2
    have h4 := src_slice (P := Tryz.prog) (c := c) Tryz.underlying22 h3
    have h5 : ((dl.drop i).take k).length = k' := by rw [List.length_take, List.length_drop]; omega
    rw [h5] at h4 ⊢
    exact h4)
  have HD0 : Hid (∀ c, Src Tryz.prog 1 22 (.slice (some ad) L c) (dl.take L).length (nums .u8 (dl.take L)) w) := Lib.hid (fun c => by
    have h3 : ReadsInt w .u8 (some ad) (dl.take L).length (dl.take L) := by
      have h5 : (dl.take L).length = L := by rw [List.length_take]; omega
      refine ⟨rfl, by have := hr.2.1; omega, fun _ => ⟨_, rfl, fun j hj => ?_⟩⟩
      rw [h5] at hj
      obtain ⟨ad', e', hcl⟩ := hr.2.2 (by omega)
      cases e'
      rw [hcl j (by omega)]
      simp only [List.getD_eq_getElem?_getD, List.getElem?_take]
      rw [if_pos hj]
    have h4 := src_slice (P := Tryz.prog) (c := c) Tryz.underlying22 h3
    have h5 : (dl.take L).length = L := by rw [List.length_take]; omega
    rw [h5] at h4 ⊢
    exact h4)
  have HTL : Hid ((dl.take L).length ≤ 200 ∧ ((dl.drop L).take n).length ≤ 200 ∧ (dl.drop L).take n = dl.drop L) := Lib.hid (by
    refine ⟨by rw [List.length_take]; omega, by rw [List.length_take, List.length_drop]; omega, List.take_of_length_le (by rw [List.length_drop]; omega)⟩)
  have HM := Lib.hid hm
  have HB := Lib.hid (⟨hdl, hdm, hbs⟩ : n < dl.length ∧ dl.length ≤ 200 ∧ bs.length ≤ 1000)
  have hnL : m - n = L := by omega
  have hmc : m ≤ cd := by omega
  have hm2 : m ≤ 200 := by omega
  rw [← hm, hnL]
  clear hf hr hlt had hD hDe hDn hm hdl hdc hdm hbs hnb hnL
  have hn2 : (-(n : Int)) < 0 := by omega
  have hL1 : ¬ ((0 : Int) ≤ - (L : Int)) := by omega
  have hL3 : - (L : Int) < 0 := by omega
  have hL2 : (n : Int) - (m : Int) = - (L : Int) := by omega
  have hL4 : L ≤ m := by omega
  have hL5 : m - L = n := by omega
  have HL := Lib.hid hL
  clear hL
  go_enter Tryz.func23, Tryz.ntmps23
  go_wp2_with (at_builtin; refine wpList_append_fm HF.out (dl.take L) rfl _ _ 22 22 rfl 5 i0 Tryz.underlying22 hi hz0 hz1 hz2 rfl _ rfl (HD0.out _) (by have := HB.out; have := HTL.out.1; omega) ?_)
  intro v1 w1 hf1
  have HF1 := Lib.hid hf1
  have HL1 : Hid ((bs ++ dl.take L).length ≤ 1200) := Lib.hid (by have := HB.out; have := HTL.out.1; rw [List.length_append]; omega)
  obtain ⟨g1, c1, rfl⟩ := hf1.sh
  clear hf1 X2 HF HD0
  obtain ⟨n1, hn1⟩ : ∃ n1, n1 = (bs ++ dl.take L).length := ⟨_, rfl⟩
  rw [← hn1] at HF1 ⊢
  clear hn1
  go_wp2_with (at_builtin; refine wpList_append_fm (HF1.out.alloc _) [46] rfl _ _ 22 22 rfl 5 i0 Tryz.underlying22 hi hz0 hz1 hz2 rfl _ rfl (src_one Tryz.underlying22 46 _) (by have := HL1.out; simp only [List.length_cons, List.length_nil]; omega) ?_)
  intro v2 w2 hf2
  have HF2 := Lib.hid hf2
  have HL2 : Hid ((bs ++ (dl.take L ++ [46])).length ≤ 1201) := Lib.hid (by have := HL1.out; simp only [List.length_append, List.length_cons, List.length_nil] at this ⊢; omega)
  obtain ⟨g2, c2, rfl⟩ := hf2.sh
  clear hf2 HF1 HL1
  obtain ⟨n2, hn2⟩ : ∃ n2, n2 = (bs ++ (dl.take L ++ [46])).length := ⟨_, rfl⟩
  rw [← hn2] at HF2 ⊢
  clear hn2
  go_wp2_with (at_builtin; refine wpList_append_fm HF2.out ((dl.drop L).take n) rfl _ _ 22 22 rfl 5 i0 Tryz.underlying22 hi hz0 hz1 hz2 rfl _ rfl (HDG.out _ _ _ L n HF2.out (by have := HL.out; omega) hn0 _ (by omega) _) (by have := HL2.out; have := HTL.out.2.1; omega) ?_)
  intro v3 w3 hf3
  have HF3 : Hid (Fm g0 w v3 (bs ++ (dl.take L ++ [46] ++ dl.drop L)) w3) := Lib.hid (by have := hf3; rw [HTL.out.2.2] at this; simpa [List.append_assoc] using this)
  clear hf3
  go_wp2_with fail
  go_ret
  exact ⟨_, rfl, HF3.out⟩
theorem fmtF_c (g0 D t cd : Nat) (ex : Int) (v : Value) (bs dl : List Int) (ad : Addr) (cs : Array Value) (w : World) (hf : Fm g0 w v bs w) (hr : ReadsInt w .u8 (some ad) dl.length dl) (hlt : ad.block < w.heap.size) (had : ad.block ≠ g0)
    (hD : w.heap[D]? = some (.cells cs t (0, 0))) (hDe : cs[2]? = some (.int .i32 ex)) (hDn : D ≠ g0) (h0 : -100 ≤ ex) (h1 : ex ≤ 100) (hdc : dl.length ≤ cd) (hdm : dl.length ≤ 200) (hbs : bs.length ≤ 1000) :
    Calls Tryz.prog 23 #[v, .pointer (some ⟨D, 0, none⟩), .slice (some ad) dl.length cd] w fun e w' => ∃ v', e = .returned v' ∧ Fm g0 w v' (bs ++ fF ex dl) w' := by
  unfold fF
  by_cases hn : ex < 0
  · obtain ⟨n, rfl⟩ : ∃ n : Nat, ex = -(n : Int) := ⟨ex.natAbs, by omega⟩
    have en : (- -(n : Int)).toNat = n := by omega
    rw [if_pos hn, en]
    by_cases hl : dl.length ≤ n
    · rw [if_pos hl]
      exact fmtF_neg1 g0 D t cd n v bs dl ad cs w hf hr hlt had hD hDe hDn (by omega) (by omega) hl hbs
    · rw [if_neg hl]
      exact fmtF_neg2 g0 D t cd n v bs dl ad cs w hf hr hlt had hD hDe hDn (by omega) (by omega) hdc hdm hbs
  · obtain ⟨n, rfl⟩ : ∃ n : Nat, ex = (n : Int) := ⟨ex.toNat, by omega⟩
    rw [if_neg hn, Int.toNat_natCast]
    exact fmtF_pos g0 D t cd n v bs dl ad cs w hf hr hlt had hD hDe hDn (by omega) hdm hbs
end Go.Proofs.YtdfcomilhjoooaaGreatDoor.Div
