/- fmtE: the figures with a point and an exponent. (Printed by gen_fmte.py.) -/
import Derived.Test.YtdfcomilhjoooaaGreatDoorAppU
namespace Go.Proofs.YtdfcomilhjoooaaGreatDoor.Div
open Go.RowKit Go.Sort Go.Lib Go.Proofs.YtdfcomilhjoooaaGreatDoorW.PrintWords Go.Proofs.YtdfcomilhjoooaaGreatDoor.Base Go.Proofs.YtdfcomilhjoooaaGreatDoor.Num Go.Proofs.YtdfcomilhjoooaaGreatDoor.Flo Go.Proofs.YtdfcomilhjoooaaGreatDoor.Byt
set_option linter.unusedVariables false

def fE (f : Int) (ex : Int) (dl : List Int) : List Int :=
  dl.take 1 ++ (if 1 < dl.length then [46] ++ dl.drop 1 else []) ++ [f, if ex + dl.length - 1 < 0 then 45 else 43] ++ decI (ex + dl.length - 1).natAbs
theorem tab_fm {g0 : Nat} {w0 w : World} {v : Value} {bs : List Int} (h : Fm g0 w0 v bs w) (hne : ¬ 7 = g0) (ht : Lib.TabIs Tryz.prog w0 "internal/strconv.uint64pow10" .u64 Lib.pow10Tab) : Lib.TabIs Tryz.prog w "internal/strconv.uint64pow10" .u64 Lib.pow10Tab := by
  unfold Lib.TabIs World.var? at *
  have e : Tryz.prog.globalNamed "internal/strconv.uint64pow10" = some 7 := by kernel_rfl
  rw [e] at ht ⊢
  simp only [Option.bind_some] at ht ⊢
  have hlt : 7 < w0.heap.size := by
    rcases Nat.lt_or_ge 7 w0.heap.size with h' | h'
    · exact h'
    · rw [Array.getElem?_eq_none h'] at ht; cases ht
  rw [h.old hlt hne]
  exact ht
theorem add_nought (ad : Addr) : ad.add 0 = ad := by unfold Addr.add; simp
/-- a buffer beside itself -/
theorem fm_self {g0 g n c : Nat} {w0 w : World} {bs : List Int} (h : Fm g0 w0 (.slice (some ⟨g, 0, none⟩) n c) bs w) : Fm g w (.slice (some ⟨g, 0, none⟩) n c) bs w := by
  obtain ⟨g', c', cells, t, hv, hg, hh, r⟩ := h.row
  injection hv with e1 e2 e3
  injection e1 with e1
  injection e1 with e1
  subst e1 e2 e3
  exact ⟨⟨g, c, cells, t, rfl, .inl rfl, hh, r⟩, ⟨rfl, rfl, rfl, Nat.le_refl _, fun _ _ _ => rfl⟩⟩
theorem fm_on {g0 g n c : Nat} {w0 w w' : World} {v' : Value} {bs bs' : List Int} (h : Fm g0 w0 (.slice (some ⟨g, 0, none⟩) n c) bs w) (h2 : Fm g w v' bs' w') : Fm g0 w0 v' bs' w' := by
  have hn : n = bs.length := by
    obtain ⟨g', c', cells, t, hv, _⟩ := h.row
    injection hv
  subst hn
  exact h.trans h2

set_option maxRecDepth 100000 in
set_option maxHeartbeats 8000000 in
theorem fmtE_op (g0 D t cd q : Nat) (f x ex : Int) (v : Value) (bs : List Int) (ad : Addr) (cs : Array Value) (w : World) (hf : Fm g0 w v bs w) (hr : ReadsInt w .u8 (some ad) (x :: []).length (x :: [])) (hlt : ad.block < w.heap.size) (had : ad.block ≠ g0)
    (hD : w.heap[D]? = some (.cells cs t (0, 0))) (hDe : cs[2]? = some (.int .i32 ex)) (h0 : -1000 ≤ ex) (h1 : ex ≤ 1000) (hdc : 1 ≤ cd) (hq : ex = (q : Int)) (hbs : bs.length ≤ 1000) (htab : Lib.TabIs Tryz.prog w "internal/strconv.uint64pow10" .u64 Lib.pow10Tab) (hg7 : ¬ 7 = g0) :
    Calls Tryz.prog 22 #[v, .int .u8 f, .pointer (some ⟨D, 0, none⟩), .slice (some ad) (x :: []).length cd] w fun e w' => ∃ v', e = .returned v' ∧ Fm g0 w v' (bs ++ ([x] ++ [f, 43] ++ decI q)) w' := by
  obtain ⟨i0, hi, hz0, hz1, hz2⟩ := info_parts infoB
  have X2 : w.cell? ⟨D, 2, none⟩ = some (.int .i32 ex) := (blk_cell hD 2).trans hDe
  have X0 : w.cell? ad = some (.int .u8 x) := by
    obtain ⟨ad', e', hcl⟩ := hr.2.2 (by simp)
    cases e'
    have := hcl 0 (by simp)
    rw [add_nought] at this
    exact this
  obtain ⟨g, c, rfl⟩ := hf.sh
  obtain ⟨n0, hn0⟩ : ∃ n0, n0 = bs.length := ⟨_, rfl⟩
  rw [← hn0] at hf ⊢
  have HF0 := Lib.hid hf
  have HL0 := Lib.hid hbs
  have HTB : Hid (∀ v bs' w', Fm g0 w v bs' w' → Lib.TabIs Tryz.prog w' "internal/strconv.uint64pow10" .u64 Lib.pow10Tab) := Lib.hid (fun v bs' w' h => tab_fm h hg7 htab)
  have hlen : (x :: ([] : List Int)).length = 1 := rfl
  rw [hlen]
  subst hq
  have hq2 : q ≤ 2000 := by omega
  clear hf hbs htab hr hlt had hD hDe hn0 hlen
  have ha1 : ¬ ((q : Int) < 0) := by omega
  go_enter Tryz.func22, Tryz.ntmps22
  go_wp2_with (at_builtin; refine wpList_append_fm (HF0.out.alloc _) [x] rfl _ _ 22 22 rfl 5 i0 Tryz.underlying22 hi hz0 hz1 hz2 rfl _ rfl (src_one Tryz.underlying22 _ _) (by have := HL0.out; simp only [List.length_cons, List.length_nil]; omega) ?_)
  intro v1 w1 hf1
  have HF1 : Hid (Fm g0 w v1 (bs ++ [x]) w1) := Lib.hid (by simpa [List.append_assoc] using hf1)
  have HL1 : Hid ((bs ++ [x]).length ≤ 1001) := Lib.hid (by have := HL0.out; simp only [List.length_append, List.length_cons, List.length_nil] at this ⊢; omega)
  obtain ⟨g1, c1, rfl⟩ := HF1.out.sh
  clear hf1 HF0 HL0
  obtain ⟨n1, hn1⟩ : ∃ n1, n1 = (bs ++ [x]).length := ⟨_, rfl⟩
  rw [← hn1] at HF1 ⊢
  clear hn1
  go_wp2_with (at_builtin; refine wpList_append_fm (HF1.out.alloc _) [f] rfl _ _ 22 22 rfl 5 i0 Tryz.underlying22 hi hz0 hz1 hz2 rfl _ rfl (src_one Tryz.underlying22 _ _) (by have := HL1.out; simp only [List.length_cons, List.length_nil]; omega) ?_)
  intro v2 w2 hf2
  have HF2 : Hid (Fm g0 w v2 (bs ++ [x] ++ [f]) w2) := Lib.hid (by simpa [List.append_assoc] using hf2)
  have HL2 : Hid ((bs ++ [x] ++ [f]).length ≤ 1203) := Lib.hid (by have := HL1.out; simp only [List.length_append, List.length_cons, List.length_nil] at this ⊢; omega)
  obtain ⟨g2, c2, rfl⟩ := HF2.out.sh
  clear hf2 HF1 HL1
  obtain ⟨n2, hn2⟩ : ∃ n2, n2 = (bs ++ [x] ++ [f]).length := ⟨_, rfl⟩
  rw [← hn2] at HF2 ⊢
  clear hn2
  go_wp2_with (at_builtin; refine wpList_append_fm (HF2.out.alloc _) [43] rfl _ _ 22 22 rfl 5 i0 Tryz.underlying22 hi hz0 hz1 hz2 rfl _ rfl (src_one Tryz.underlying22 _ _) (by have := HL2.out; simp only [List.length_cons, List.length_nil]; omega) ?_)
  intro v3 w3 hf3
  have HF3 : Hid (Fm g0 w v3 (bs ++ [x] ++ [f] ++ [43]) w3) := Lib.hid (by simpa [List.append_assoc] using hf3)
  have HL3 : Hid ((bs ++ [x] ++ [f] ++ [43]).length ≤ 1204) := Lib.hid (by have := HL2.out; simp only [List.length_append, List.length_cons, List.length_nil] at this ⊢; omega)
  obtain ⟨g3, c3, rfl⟩ := HF3.out.sh
  clear hf3 HF2 HL2
  obtain ⟨n3, hn3⟩ : ∃ n3, n3 = (bs ++ [x] ++ [f] ++ [43]).length := ⟨_, rfl⟩
  rw [← hn3] at HF3 ⊢
  clear hn3
  go_wp2_with (go_at_call 36; refine (appI g3 q (by omega) _ _ _ (fm_self HF3.out) (by have := HL3.out; omega) (HTB.out _ _ _ HF3.out)).mono ?_; rintro e w9 ⟨v9, rfl, hf9⟩)
  have HF9 : Hid (Fm g0 w v9 (bs ++ ([x] ++ [f, 43] ++ decI q)) w9) := Lib.hid (by simpa [List.append_assoc] using fm_on HF3.out hf9)
  clear hf9
  go_wp2_with fail
  go_ret
  exact ⟨_, rfl, HF9.out⟩

set_option maxRecDepth 100000 in
set_option maxHeartbeats 8000000 in
theorem fmtE_on (g0 D t cd q : Nat) (f x ex : Int) (v : Value) (bs : List Int) (ad : Addr) (cs : Array Value) (w : World) (hf : Fm g0 w v bs w) (hr : ReadsInt w .u8 (some ad) (x :: []).length (x :: [])) (hlt : ad.block < w.heap.size) (had : ad.block ≠ g0)
    (hD : w.heap[D]? = some (.cells cs t (0, 0))) (hDe : cs[2]? = some (.int .i32 ex)) (h0 : -1000 ≤ ex) (h1 : ex ≤ 1000) (hdc : 1 ≤ cd) (hq : ex = -(q : Int)) (hq0 : 0 < q) (hbs : bs.length ≤ 1000) (htab : Lib.TabIs Tryz.prog w "internal/strconv.uint64pow10" .u64 Lib.pow10Tab) (hg7 : ¬ 7 = g0) :
    Calls Tryz.prog 22 #[v, .int .u8 f, .pointer (some ⟨D, 0, none⟩), .slice (some ad) (x :: []).length cd] w fun e w' => ∃ v', e = .returned v' ∧ Fm g0 w v' (bs ++ ([x] ++ [f, 45] ++ decI q)) w' := by
  obtain ⟨i0, hi, hz0, hz1, hz2⟩ := info_parts infoB
  have X2 : w.cell? ⟨D, 2, none⟩ = some (.int .i32 ex) := (blk_cell hD 2).trans hDe
  have X0 : w.cell? ad = some (.int .u8 x) := by
    obtain ⟨ad', e', hcl⟩ := hr.2.2 (by simp)
    cases e'
    have := hcl 0 (by simp)
    rw [add_nought] at this
    exact this
  obtain ⟨g, c, rfl⟩ := hf.sh
  obtain ⟨n0, hn0⟩ : ∃ n0, n0 = bs.length := ⟨_, rfl⟩
  rw [← hn0] at hf ⊢
  have HF0 := Lib.hid hf
  have HL0 := Lib.hid hbs
  have HTB : Hid (∀ v bs' w', Fm g0 w v bs' w' → Lib.TabIs Tryz.prog w' "internal/strconv.uint64pow10" .u64 Lib.pow10Tab) := Lib.hid (fun v bs' w' h => tab_fm h hg7 htab)
  have hlen : (x :: ([] : List Int)).length = 1 := rfl
  rw [hlen]
  subst hq
  have hq2 : q ≤ 2000 := by omega
  clear hf hbs htab hr hlt had hD hDe hn0 hlen
  have ha1 : -(q : Int) < 0 := by omega
  go_enter Tryz.func22, Tryz.ntmps22
  go_wp2_with (at_builtin; refine wpList_append_fm (HF0.out.alloc _) [x] rfl _ _ 22 22 rfl 5 i0 Tryz.underlying22 hi hz0 hz1 hz2 rfl _ rfl (src_one Tryz.underlying22 _ _) (by have := HL0.out; simp only [List.length_cons, List.length_nil]; omega) ?_)
  intro v1 w1 hf1
  have HF1 : Hid (Fm g0 w v1 (bs ++ [x]) w1) := Lib.hid (by simpa [List.append_assoc] using hf1)
  have HL1 : Hid ((bs ++ [x]).length ≤ 1001) := Lib.hid (by have := HL0.out; simp only [List.length_append, List.length_cons, List.length_nil] at this ⊢; omega)
  obtain ⟨g1, c1, rfl⟩ := HF1.out.sh
  clear hf1 HF0 HL0
  obtain ⟨n1, hn1⟩ : ∃ n1, n1 = (bs ++ [x]).length := ⟨_, rfl⟩
  rw [← hn1] at HF1 ⊢
  clear hn1
  go_wp2_with (at_builtin; refine wpList_append_fm (HF1.out.alloc _) [f] rfl _ _ 22 22 rfl 5 i0 Tryz.underlying22 hi hz0 hz1 hz2 rfl _ rfl (src_one Tryz.underlying22 _ _) (by have := HL1.out; simp only [List.length_cons, List.length_nil]; omega) ?_)
  intro v2 w2 hf2
  have HF2 : Hid (Fm g0 w v2 (bs ++ [x] ++ [f]) w2) := Lib.hid (by simpa [List.append_assoc] using hf2)
  have HL2 : Hid ((bs ++ [x] ++ [f]).length ≤ 1203) := Lib.hid (by have := HL1.out; simp only [List.length_append, List.length_cons, List.length_nil] at this ⊢; omega)
  obtain ⟨g2, c2, rfl⟩ := HF2.out.sh
  clear hf2 HF1 HL1
  obtain ⟨n2, hn2⟩ : ∃ n2, n2 = (bs ++ [x] ++ [f]).length := ⟨_, rfl⟩
  rw [← hn2] at HF2 ⊢
  clear hn2
  go_wp2_with (at_builtin; refine wpList_append_fm (HF2.out.alloc _) [45] rfl _ _ 22 22 rfl 5 i0 Tryz.underlying22 hi hz0 hz1 hz2 rfl _ rfl (src_one Tryz.underlying22 _ _) (by have := HL2.out; simp only [List.length_cons, List.length_nil]; omega) ?_)
  intro v3 w3 hf3
  have HF3 : Hid (Fm g0 w v3 (bs ++ [x] ++ [f] ++ [45]) w3) := Lib.hid (by simpa [List.append_assoc] using hf3)
  have HL3 : Hid ((bs ++ [x] ++ [f] ++ [45]).length ≤ 1204) := Lib.hid (by have := HL2.out; simp only [List.length_append, List.length_cons, List.length_nil] at this ⊢; omega)
  obtain ⟨g3, c3, rfl⟩ := HF3.out.sh
  clear hf3 HF2 HL2
  obtain ⟨n3, hn3⟩ : ∃ n3, n3 = (bs ++ [x] ++ [f] ++ [45]).length := ⟨_, rfl⟩
  rw [← hn3] at HF3 ⊢
  clear hn3
  go_wp2_with (go_at_call 36; refine (appI g3 q (by omega) _ _ _ (fm_self HF3.out) (by have := HL3.out; omega) (HTB.out _ _ _ HF3.out)).mono ?_; rintro e w9 ⟨v9, rfl, hf9⟩)
  have HF9 : Hid (Fm g0 w v9 (bs ++ ([x] ++ [f, 45] ++ decI q)) w9) := Lib.hid (by simpa [List.append_assoc] using fm_on HF3.out hf9)
  clear hf9
  go_wp2_with fail
  go_ret
  exact ⟨_, rfl, HF9.out⟩

set_option maxRecDepth 100000 in
set_option maxHeartbeats 8000000 in
theorem fmtE_mp (g0 D t cd q : Nat) (f x ex : Int) (v : Value) (bs tl : List Int) (ad : Addr) (cs : Array Value) (w : World) (hf : Fm g0 w v bs w) (hr : ReadsInt w .u8 (some ad) (x :: tl).length (x :: tl)) (hlt : ad.block < w.heap.size) (had : ad.block ≠ g0)
    (hD : w.heap[D]? = some (.cells cs t (0, 0))) (hDe : cs[2]? = some (.int .i32 ex)) (h0 : -1000 ≤ ex) (h1 : ex ≤ 1000) (htl : 0 < tl.length) (hdm : tl.length ≤ 200) (hdc : tl.length + 1 ≤ cd) (hq : ex + tl.length = (q : Int)) (hbs : bs.length ≤ 1000) (htab : Lib.TabIs Tryz.prog w "internal/strconv.uint64pow10" .u64 Lib.pow10Tab) (hg7 : ¬ 7 = g0) :
    Calls Tryz.prog 22 #[v, .int .u8 f, .pointer (some ⟨D, 0, none⟩), .slice (some ad) (x :: tl).length cd] w fun e w' => ∃ v', e = .returned v' ∧ Fm g0 w v' (bs ++ ([x] ++ ([46] ++ tl) ++ [f, 43] ++ decI q)) w' := by
  obtain ⟨i0, hi, hz0, hz1, hz2⟩ := info_parts infoB
  have X2 : w.cell? ⟨D, 2, none⟩ = some (.int .i32 ex) := (blk_cell hD 2).trans hDe
  have X0 : w.cell? ad = some (.int .u8 x) := by
    obtain ⟨ad', e', hcl⟩ := hr.2.2 (by simp)
    cases e'
    have := hcl 0 (by simp)
    rw [add_nought] at this
    exact this
  obtain ⟨g, c, rfl⟩ := hf.sh
  obtain ⟨n0, hn0⟩ : ∃ n0, n0 = bs.length := ⟨_, rfl⟩
  rw [← hn0] at hf ⊢
  have HF0 := Lib.hid hf
  have HL0 := Lib.hid hbs
  have HTB : Hid (∀ v bs' w', Fm g0 w v bs' w' → Lib.TabIs Tryz.prog w' "internal/strconv.uint64pow10" .u64 Lib.pow10Tab) := Lib.hid (fun v bs' w' h => tab_fm h hg7 htab)
  obtain ⟨m, hm⟩ : ∃ m, m = (x :: tl).length := ⟨_, rfl⟩
  have hm1 : m = tl.length + 1 := by rw [hm]; rfl
  have HDG : Hid (∀ v bs' w', Fm g0 w v bs' w' → ∀ k', k' = m - 1 → ∀ c, Src Tryz.prog 1 22 (.slice (some (ad.add 1)) k' c) tl.length (nums .u8 tl) w') := Lib.hid (fun v bs' w' h k' e c => by
    have h3 := part_at (h.dig hr hlt had) 1 tl.length (by simp; omega) htl
    have h6 : ((x :: tl).drop 1).take tl.length = tl := by simp
    rw [h6] at h3
    have h4 := src_slice (P := Tryz.prog) (c := c) Tryz.underlying22 h3
    have h5 : tl.length = k' := by omega
    rw [h5] at h4 ⊢
    exact h4)
  have HTL : Hid (tl.length ≤ 200) := Lib.hid hdm
  have ha : ex + (m : Int) - 1 = (q : Int) := by omega
  have hm2 : 1 < (m : Int) := by omega
  have hm3 : m ≤ 201 := by omega
  have hm4 : m ≤ cd := by omega
  have hm5 : 1 ≤ m := by omega
  have hq2 : q ≤ 2000 := by omega
  rw [← hm]
  clear hf hbs htab hr hlt had hD hDe hn0 hm hm1 htl hdm hdc hq
  have ha1 : ¬ ((q : Int) < 0) := by omega
  go_enter Tryz.func22, Tryz.ntmps22
  go_wp2_with (at_builtin; refine wpList_append_fm (HF0.out.alloc _) [x] rfl _ _ 22 22 rfl 5 i0 Tryz.underlying22 hi hz0 hz1 hz2 rfl _ rfl (src_one Tryz.underlying22 _ _) (by have := HL0.out; simp only [List.length_cons, List.length_nil]; omega) ?_)
  intro v1 w1 hf1
  have HF1 : Hid (Fm g0 w v1 (bs ++ [x]) w1) := Lib.hid (by simpa [List.append_assoc] using hf1)
  have HL1 : Hid ((bs ++ [x]).length ≤ 1001) := Lib.hid (by have := HL0.out; simp only [List.length_append, List.length_cons, List.length_nil] at this ⊢; omega)
  obtain ⟨g1, c1, rfl⟩ := HF1.out.sh
  clear hf1 HF0 HL0
  obtain ⟨n1, hn1⟩ : ∃ n1, n1 = (bs ++ [x]).length := ⟨_, rfl⟩
  rw [← hn1] at HF1 ⊢
  clear hn1
  go_wp2_with (at_builtin; refine wpList_append_fm (HF1.out.alloc _) [46] rfl _ _ 22 22 rfl 5 i0 Tryz.underlying22 hi hz0 hz1 hz2 rfl _ rfl (src_one Tryz.underlying22 _ _) (by have := HL1.out; simp only [List.length_cons, List.length_nil]; omega) ?_)
  intro v2 w2 hf2
  have HF2 : Hid (Fm g0 w v2 (bs ++ [x] ++ [46]) w2) := Lib.hid (by simpa [List.append_assoc] using hf2)
  have HL2 : Hid ((bs ++ [x] ++ [46]).length ≤ 1002) := Lib.hid (by have := HL1.out; simp only [List.length_append, List.length_cons, List.length_nil] at this ⊢; omega)
  obtain ⟨g2, c2, rfl⟩ := HF2.out.sh
  clear hf2 HF1 HL1
  obtain ⟨n2, hn2⟩ : ∃ n2, n2 = (bs ++ [x] ++ [46]).length := ⟨_, rfl⟩
  rw [← hn2] at HF2 ⊢
  clear hn2
  go_wp2_with (at_builtin; refine wpList_append_fm HF2.out tl rfl _ _ 22 22 rfl 5 i0 Tryz.underlying22 hi hz0 hz1 hz2 rfl _ rfl (HDG.out _ _ _ HF2.out _ (by omega) _) (by have := HL2.out; have := HTL.out; omega) ?_)
  intro v3 w3 hf3
  have HF3 : Hid (Fm g0 w v3 (bs ++ [x] ++ [46] ++ tl) w3) := Lib.hid (by simpa [List.append_assoc] using hf3)
  have HL3 : Hid ((bs ++ [x] ++ [46] ++ tl).length ≤ 1202) := Lib.hid (by have := HL2.out; have hT := HTL.out; simp only [List.length_append, List.length_cons, List.length_nil] at this ⊢; omega)
  obtain ⟨g3, c3, rfl⟩ := HF3.out.sh
  clear hf3 HF2 HL2
  obtain ⟨n3, hn3⟩ : ∃ n3, n3 = (bs ++ [x] ++ [46] ++ tl).length := ⟨_, rfl⟩
  rw [← hn3] at HF3 ⊢
  clear hn3
  go_wp2_with (at_builtin; refine wpList_append_fm (HF3.out.alloc _) [f] rfl _ _ 22 22 rfl 5 i0 Tryz.underlying22 hi hz0 hz1 hz2 rfl _ rfl (src_one Tryz.underlying22 _ _) (by have := HL3.out; simp only [List.length_cons, List.length_nil]; omega) ?_)
  intro v4 w4 hf4
  have HF4 : Hid (Fm g0 w v4 (bs ++ [x] ++ [46] ++ tl ++ [f]) w4) := Lib.hid (by simpa [List.append_assoc] using hf4)
  have HL4 : Hid ((bs ++ [x] ++ [46] ++ tl ++ [f]).length ≤ 1203) := Lib.hid (by have := HL3.out; simp only [List.length_append, List.length_cons, List.length_nil] at this ⊢; omega)
  obtain ⟨g4, c4, rfl⟩ := HF4.out.sh
  clear hf4 HF3 HL3
  obtain ⟨n4, hn4⟩ : ∃ n4, n4 = (bs ++ [x] ++ [46] ++ tl ++ [f]).length := ⟨_, rfl⟩
  rw [← hn4] at HF4 ⊢
  clear hn4
  go_wp2_with (at_builtin; refine wpList_append_fm (HF4.out.alloc _) [43] rfl _ _ 22 22 rfl 5 i0 Tryz.underlying22 hi hz0 hz1 hz2 rfl _ rfl (src_one Tryz.underlying22 _ _) (by have := HL4.out; simp only [List.length_cons, List.length_nil]; omega) ?_)
  intro v5 w5 hf5
  have HF5 : Hid (Fm g0 w v5 (bs ++ [x] ++ [46] ++ tl ++ [f] ++ [43]) w5) := Lib.hid (by simpa [List.append_assoc] using hf5)
  have HL5 : Hid ((bs ++ [x] ++ [46] ++ tl ++ [f] ++ [43]).length ≤ 1204) := Lib.hid (by have := HL4.out; simp only [List.length_append, List.length_cons, List.length_nil] at this ⊢; omega)
  obtain ⟨g5, c5, rfl⟩ := HF5.out.sh
  clear hf5 HF4 HL4
  obtain ⟨n5, hn5⟩ : ∃ n5, n5 = (bs ++ [x] ++ [46] ++ tl ++ [f] ++ [43]).length := ⟨_, rfl⟩
  rw [← hn5] at HF5 ⊢
  clear hn5
  go_wp2_with (go_at_call 36; refine (appI g5 q (by omega) _ _ _ (fm_self HF5.out) (by have := HL5.out; omega) (HTB.out _ _ _ HF5.out)).mono ?_; rintro e w9 ⟨v9, rfl, hf9⟩)
  have HF9 : Hid (Fm g0 w v9 (bs ++ ([x] ++ ([46] ++ tl) ++ [f, 43] ++ decI q)) w9) := Lib.hid (by simpa [List.append_assoc] using fm_on HF5.out hf9)
  clear hf9
  go_wp2_with fail
  go_ret
  exact ⟨_, rfl, HF9.out⟩

set_option maxRecDepth 100000 in
set_option maxHeartbeats 8000000 in
theorem fmtE_mn (g0 D t cd q : Nat) (f x ex : Int) (v : Value) (bs tl : List Int) (ad : Addr) (cs : Array Value) (w : World) (hf : Fm g0 w v bs w) (hr : ReadsInt w .u8 (some ad) (x :: tl).length (x :: tl)) (hlt : ad.block < w.heap.size) (had : ad.block ≠ g0)
    (hD : w.heap[D]? = some (.cells cs t (0, 0))) (hDe : cs[2]? = some (.int .i32 ex)) (h0 : -1000 ≤ ex) (h1 : ex ≤ 1000) (htl : 0 < tl.length) (hdm : tl.length ≤ 200) (hdc : tl.length + 1 ≤ cd) (hq : ex + tl.length = -(q : Int)) (hq0 : 0 < q) (hbs : bs.length ≤ 1000) (htab : Lib.TabIs Tryz.prog w "internal/strconv.uint64pow10" .u64 Lib.pow10Tab) (hg7 : ¬ 7 = g0) :
    Calls Tryz.prog 22 #[v, .int .u8 f, .pointer (some ⟨D, 0, none⟩), .slice (some ad) (x :: tl).length cd] w fun e w' => ∃ v', e = .returned v' ∧ Fm g0 w v' (bs ++ ([x] ++ ([46] ++ tl) ++ [f, 45] ++ decI q)) w' := by
  obtain ⟨i0, hi, hz0, hz1, hz2⟩ := info_parts infoB
  have X2 : w.cell? ⟨D, 2, none⟩ = some (.int .i32 ex) := (blk_cell hD 2).trans hDe
  have X0 : w.cell? ad = some (.int .u8 x) := by
    obtain ⟨ad', e', hcl⟩ := hr.2.2 (by simp)
    cases e'
    have := hcl 0 (by simp)
    rw [add_nought] at this
    exact this
  obtain ⟨g, c, rfl⟩ := hf.sh
  obtain ⟨n0, hn0⟩ : ∃ n0, n0 = bs.length := ⟨_, rfl⟩
  rw [← hn0] at hf ⊢
  have HF0 := Lib.hid hf
  have HL0 := Lib.hid hbs
  have HTB : Hid (∀ v bs' w', Fm g0 w v bs' w' → Lib.TabIs Tryz.prog w' "internal/strconv.uint64pow10" .u64 Lib.pow10Tab) := Lib.hid (fun v bs' w' h => tab_fm h hg7 htab)
  obtain ⟨m, hm⟩ : ∃ m, m = (x :: tl).length := ⟨_, rfl⟩
  have hm1 : m = tl.length + 1 := by rw [hm]; rfl
  have HDG : Hid (∀ v bs' w', Fm g0 w v bs' w' → ∀ k', k' = m - 1 → ∀ c, Src Tryz.prog 1 22 (.slice (some (ad.add 1)) k' c) tl.length (nums .u8 tl) w') := Lib.hid (fun v bs' w' h k' e c => by
    have h3 := part_at (h.dig hr hlt had) 1 tl.length (by simp; omega) htl
    have h6 : ((x :: tl).drop 1).take tl.length = tl := by simp
    rw [h6] at h3
    have h4 := src_slice (P := Tryz.prog) (c := c) Tryz.underlying22 h3
    have h5 : tl.length = k' := by omega
    rw [h5] at h4 ⊢
    exact h4)
  have HTL : Hid (tl.length ≤ 200) := Lib.hid hdm
  have ha : ex + (m : Int) - 1 = -(q : Int) := by omega
  have hm2 : 1 < (m : Int) := by omega
  have hm3 : m ≤ 201 := by omega
  have hm4 : m ≤ cd := by omega
  have hm5 : 1 ≤ m := by omega
  have hq2 : q ≤ 2000 := by omega
  rw [← hm]
  clear hf hbs htab hr hlt had hD hDe hn0 hm hm1 htl hdm hdc hq
  have ha1 : -(q : Int) < 0 := by omega
  go_enter Tryz.func22, Tryz.ntmps22
  go_wp2_with (at_builtin; refine wpList_append_fm (HF0.out.alloc _) [x] rfl _ _ 22 22 rfl 5 i0 Tryz.underlying22 hi hz0 hz1 hz2 rfl _ rfl (src_one Tryz.underlying22 _ _) (by have := HL0.out; simp only [List.length_cons, List.length_nil]; omega) ?_)
  intro v1 w1 hf1
  have HF1 : Hid (Fm g0 w v1 (bs ++ [x]) w1) := Lib.hid (by simpa [List.append_assoc] using hf1)
  have HL1 : Hid ((bs ++ [x]).length ≤ 1001) := Lib.hid (by have := HL0.out; simp only [List.length_append, List.length_cons, List.length_nil] at this ⊢; omega)
  obtain ⟨g1, c1, rfl⟩ := HF1.out.sh
  clear hf1 HF0 HL0
  obtain ⟨n1, hn1⟩ : ∃ n1, n1 = (bs ++ [x]).length := ⟨_, rfl⟩
  rw [← hn1] at HF1 ⊢
  clear hn1
  go_wp2_with (at_builtin; refine wpList_append_fm (HF1.out.alloc _) [46] rfl _ _ 22 22 rfl 5 i0 Tryz.underlying22 hi hz0 hz1 hz2 rfl _ rfl (src_one Tryz.underlying22 _ _) (by have := HL1.out; simp only [List.length_cons, List.length_nil]; omega) ?_)
  intro v2 w2 hf2
  have HF2 : Hid (Fm g0 w v2 (bs ++ [x] ++ [46]) w2) := Lib.hid (by simpa [List.append_assoc] using hf2)
  have HL2 : Hid ((bs ++ [x] ++ [46]).length ≤ 1002) := Lib.hid (by have := HL1.out; simp only [List.length_append, List.length_cons, List.length_nil] at this ⊢; omega)
  obtain ⟨g2, c2, rfl⟩ := HF2.out.sh
  clear hf2 HF1 HL1
  obtain ⟨n2, hn2⟩ : ∃ n2, n2 = (bs ++ [x] ++ [46]).length := ⟨_, rfl⟩
  rw [← hn2] at HF2 ⊢
  clear hn2
  go_wp2_with (at_builtin; refine wpList_append_fm HF2.out tl rfl _ _ 22 22 rfl 5 i0 Tryz.underlying22 hi hz0 hz1 hz2 rfl _ rfl (HDG.out _ _ _ HF2.out _ (by omega) _) (by have := HL2.out; have := HTL.out; omega) ?_)
  intro v3 w3 hf3
  have HF3 : Hid (Fm g0 w v3 (bs ++ [x] ++ [46] ++ tl) w3) := Lib.hid (by simpa [List.append_assoc] using hf3)
  have HL3 : Hid ((bs ++ [x] ++ [46] ++ tl).length ≤ 1202) := Lib.hid (by have := HL2.out; have hT := HTL.out; simp only [List.length_append, List.length_cons, List.length_nil] at this ⊢; omega)
  obtain ⟨g3, c3, rfl⟩ := HF3.out.sh
  clear hf3 HF2 HL2
  obtain ⟨n3, hn3⟩ : ∃ n3, n3 = (bs ++ [x] ++ [46] ++ tl).length := ⟨_, rfl⟩
  rw [← hn3] at HF3 ⊢
  clear hn3
  go_wp2_with (at_builtin; refine wpList_append_fm (HF3.out.alloc _) [f] rfl _ _ 22 22 rfl 5 i0 Tryz.underlying22 hi hz0 hz1 hz2 rfl _ rfl (src_one Tryz.underlying22 _ _) (by have := HL3.out; simp only [List.length_cons, List.length_nil]; omega) ?_)
  intro v4 w4 hf4
  have HF4 : Hid (Fm g0 w v4 (bs ++ [x] ++ [46] ++ tl ++ [f]) w4) := Lib.hid (by simpa [List.append_assoc] using hf4)
  have HL4 : Hid ((bs ++ [x] ++ [46] ++ tl ++ [f]).length ≤ 1203) := Lib.hid (by have := HL3.out; simp only [List.length_append, List.length_cons, List.length_nil] at this ⊢; omega)
  obtain ⟨g4, c4, rfl⟩ := HF4.out.sh
  clear hf4 HF3 HL3
  obtain ⟨n4, hn4⟩ : ∃ n4, n4 = (bs ++ [x] ++ [46] ++ tl ++ [f]).length := ⟨_, rfl⟩
  rw [← hn4] at HF4 ⊢
  clear hn4
  go_wp2_with (at_builtin; refine wpList_append_fm (HF4.out.alloc _) [45] rfl _ _ 22 22 rfl 5 i0 Tryz.underlying22 hi hz0 hz1 hz2 rfl _ rfl (src_one Tryz.underlying22 _ _) (by have := HL4.out; simp only [List.length_cons, List.length_nil]; omega) ?_)
  intro v5 w5 hf5
  have HF5 : Hid (Fm g0 w v5 (bs ++ [x] ++ [46] ++ tl ++ [f] ++ [45]) w5) := Lib.hid (by simpa [List.append_assoc] using hf5)
  have HL5 : Hid ((bs ++ [x] ++ [46] ++ tl ++ [f] ++ [45]).length ≤ 1204) := Lib.hid (by have := HL4.out; simp only [List.length_append, List.length_cons, List.length_nil] at this ⊢; omega)
  obtain ⟨g5, c5, rfl⟩ := HF5.out.sh
  clear hf5 HF4 HL4
  obtain ⟨n5, hn5⟩ : ∃ n5, n5 = (bs ++ [x] ++ [46] ++ tl ++ [f] ++ [45]).length := ⟨_, rfl⟩
  rw [← hn5] at HF5 ⊢
  clear hn5
  go_wp2_with (go_at_call 36; refine (appI g5 q (by omega) _ _ _ (fm_self HF5.out) (by have := HL5.out; omega) (HTB.out _ _ _ HF5.out)).mono ?_; rintro e w9 ⟨v9, rfl, hf9⟩)
  have HF9 : Hid (Fm g0 w v9 (bs ++ ([x] ++ ([46] ++ tl) ++ [f, 45] ++ decI q)) w9) := Lib.hid (by simpa [List.append_assoc] using fm_on HF5.out hf9)
  clear hf9
  go_wp2_with fail
  go_ret
  exact ⟨_, rfl, HF9.out⟩

theorem fmtE_c (g0 D t cd : Nat) (f ex : Int) (v : Value) (bs dl : List Int) (ad : Addr) (cs : Array Value) (w : World) (hf : Fm g0 w v bs w) (hr : ReadsInt w .u8 (some ad) dl.length dl) (hlt : ad.block < w.heap.size) (had : ad.block ≠ g0)
    (hD : w.heap[D]? = some (.cells cs t (0, 0))) (hDe : cs[2]? = some (.int .i32 ex)) (h0 : -1000 ≤ ex) (h1 : ex ≤ 1000) (hd0 : 0 < dl.length) (hdc : dl.length ≤ cd) (hdm : dl.length ≤ 200) (hbs : bs.length ≤ 1000)
    (htab : Lib.TabIs Tryz.prog w "internal/strconv.uint64pow10" .u64 Lib.pow10Tab) (hg7 : ¬ 7 = g0) :
    Calls Tryz.prog 22 #[v, .int .u8 f, .pointer (some ⟨D, 0, none⟩), .slice (some ad) dl.length cd] w fun e w' => ∃ v', e = .returned v' ∧ Fm g0 w v' (bs ++ fE f ex dl) w' := by
  obtain ⟨x, tl, rfl⟩ : ∃ x tl, dl = x :: tl := by cases dl with
    | nil => exact absurd hd0 (by decide)
    | cons x tl => exact ⟨x, tl, rfl⟩
  have hlen : (x :: tl).length = tl.length + 1 := rfl
  have hadj : ex + ((x :: tl).length : Int) - 1 = ex + tl.length := by rw [hlen]; omega
  unfold fE
  rw [hadj]
  by_cases htl : tl = []
  · subst htl
    by_cases hn : ex < 0
    · obtain ⟨q, rfl⟩ : ∃ q : Nat, ex = -(q : Int) := ⟨ex.natAbs, by omega⟩
      have e1 : (-(q : Int) + (([] : List Int).length : Int)).natAbs = q := by simp
      have e2 : -(q : Int) + (([] : List Int).length : Int) < 0 := by simp only [List.length_nil]; omega
      rw [e1, if_pos e2]
      exact fmtE_on g0 D t cd q f x _ v bs ad cs w hf hr hlt had hD hDe h0 h1 hdc rfl (by omega) hbs htab hg7
    · obtain ⟨q, rfl⟩ : ∃ q : Nat, ex = (q : Int) := ⟨ex.natAbs, by omega⟩
      have e1 : ((q : Int) + (([] : List Int).length : Int)).natAbs = q := by simp
      have e2 : ¬ ((q : Int) + (([] : List Int).length : Int) < 0) := by simp only [List.length_nil]; omega
      rw [e1, if_neg e2]
      exact fmtE_op g0 D t cd q f x _ v bs ad cs w hf hr hlt had hD hDe h0 h1 hdc rfl hbs htab hg7
  · have htp : 0 < tl.length := List.length_pos_iff.2 htl
    have ht2 : 1 < (x :: tl).length := by rw [hlen]; omega
    rw [if_pos ht2]
    by_cases hn : ex + (tl.length : Int) < 0
    · obtain ⟨q, hq⟩ : ∃ q : Nat, ex + (tl.length : Int) = -(q : Int) := ⟨(ex + (tl.length : Int)).natAbs, by omega⟩
      have e1 : (ex + (tl.length : Int)).natAbs = q := by omega
      rw [e1, if_pos hn]
      exact fmtE_mn g0 D t cd q f x ex v bs tl ad cs w hf hr hlt had hD hDe h0 h1 htp (by omega) (by omega) hq (by omega) hbs htab hg7
    · obtain ⟨q, hq⟩ : ∃ q : Nat, ex + (tl.length : Int) = (q : Int) := ⟨(ex + (tl.length : Int)).natAbs, by omega⟩
      have e1 : (ex + (tl.length : Int)).natAbs = q := by omega
      rw [e1, if_neg hn]
      exact fmtE_mp g0 D t cd q f x ex v bs tl ad cs w hf hr hlt had hD hDe h0 h1 htp (by omega) (by omega) hq hbs htab hg7
end Go.Proofs.YtdfcomilhjoooaaGreatDoor.Div
