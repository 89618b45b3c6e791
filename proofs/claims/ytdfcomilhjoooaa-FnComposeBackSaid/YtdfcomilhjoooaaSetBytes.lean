/- Contract of nat.setBytes: at most a hundred bytes, into a nat whose block is known. -/
import Derived.Test.YtdfcomilhjoooaaBe
import Derived.Test.YtdfcomilhjoooaaBase6
namespace Go.Proofs.Ytdfcomilhjoooaa.Be
open Go.RowKit Go.Proofs.YtdfcomilhjoooaaW.PrintWords Go.Proofs.YtdfcomilhjoooaaW.PrintLast Go.Proofs.YtdfcomilhjoooaaW.PrintMore Go.Proofs.Ytdfcomilhjoooaa.Base Go.Proofs.Ytdfcomilhjoooaa.Num
open Go.Proofs.Ytdfcomilhjoooaa.PFnCompose (info5)
open Go.Proofs.Ytdfcomilhjoooaa.Spec2 (wrapU)
open Go.Proofs.Ytdfcomilhjoooaa.Spec3 (or_shl)

theorem make_own (A : Option Addr) (m cap n : Nat) (h1 : 1 ≤ n) (hn : n ≤ 1000) (hcap : cap ≤ 1000) (w : World)
    (hz : (A = none ∧ cap = 0) ∨ ∃ g cur, A = some ⟨g, 0, none⟩ ∧ w.heap[g]? = some (.cells cur 80 (0, 0)) ∧ cur.size = cap) :
    Calls Try.prog 46 #[.slice A m cap, .int .i64 n] w fun e w' => ∃ g' cap' cur', e = .returned (.slice (some ⟨g', 0, none⟩) n cap') ∧ n ≤ cap' ∧ cap' ≤ 2000 ∧
      w'.heap[g']? = some (.cells cur' 80 (0, 0)) ∧ cur'.size = cap' ∧ Below w.heap.size w w' ∧ (A = some ⟨g', 0, none⟩ ∨ w.heap.size ≤ g') := by
  by_cases hre : n ≤ cap
  · rcases hz with ⟨rfl, rfl⟩ | ⟨g, cur, rfl, hg, hs⟩
    · omega
    · refine (make_re (some ⟨g, 0, none⟩) m cap n hre (by omega) (fun h => by cases h) w).mono ?_
      rintro e w' ⟨rfl, rfl⟩
      exact ⟨g, cap, cur, rfl, hre, by omega, hg, hs, Below.refl _ _, .inl rfl⟩
  · by_cases h2 : 2 ≤ n
    · refine (make_new A m cap n h2 (by omega) (by omega) w).mono ?_
      rintro e w' ⟨rfl, rfl⟩
      refine ⟨_, n + 4, _, rfl, by omega, by omega, blk_new _ _, ?_, below_alloc (Below.refl _ _) _, .inr (Nat.le_refl _)⟩
      have := made_len (.int .u64 0) (n + 4)
      simpa using this
    · obtain rfl : n = 1 := by omega
      obtain rfl : cap = 0 := by omega
      refine (make_one A m w).mono ?_
      rintro e w' ⟨rfl, rfl⟩
      exact ⟨_, 1, _, rfl, by omega, by omega, blk_new _ _, rfl, below_alloc (Below.refl _ _) _, .inr (Nat.le_refl _)⟩

/-- the full word number j, counted from the end -/
def wdB (b : List Int) (j : Nat) : Int := bew ((b.take (b.length - 8 * j)).drop (b.length - 8 * j - 8))
/-- what stands while the words are written -/
def Wr (b : List Int) (g cap : Nat) (w1 : World) (k : Nat) (wr : World) : Prop :=
  ∃ cur : Array Value, wr.heap[g]? = some (.cells cur 80 (0, 0)) ∧ cur.size = cap ∧ (∀ j, j < k → cur[j]? = some (.int .u64 (wdB b j))) ∧ But g w1 wr

theorem reads_chunk {w : World} {ad : Addr} {b : List Int} (h : ReadsInt w .u8 (some ad) b.length b) (i m : Nat) (hm : i + m ≤ b.length) : ReadsInt w .u8 (some (ad.add i)) m ((b.take (i + m)).drop i) := by
  refine ⟨by simp; omega, by have := h.2.1; omega, fun h0 => ⟨_, rfl, fun j hj => ?_⟩⟩
  obtain ⟨ad', e, hc⟩ := h.2.2 (by omega)
  cases e
  rw [Go.Addr.add_add, hc (i + j) (by omega)]
  simp only [List.getD_eq_getElem?_getD, List.getElem?_drop, List.getElem?_take]
  rw [if_pos (by omega)]
theorem reads_but {w1 wr : World} {k : IntKind} {ad : Addr} {n g : Nat} {l : List Int} (h : ReadsInt w1 k (some ad) n l) (hb : But g w1 wr) (hne : ¬ ad.block = g) (hlt : ad.block < w1.heap.size) : ReadsInt wr k (some ad) n l :=
  ⟨h.1, h.2.1, fun hn => by
    obtain ⟨ad', e, hc⟩ := h.2.2 hn
    cases e
    refine ⟨_, rfl, fun j hj => ?_⟩
    rw [← hc j hj]
    exact World.cell?_of_block (hb.block _ (by rw [Base.add_block]; exact hlt) (by rw [Base.add_block]; exact hne))⟩
theorem but_drewN {b : Nat} {w w1 : World} (h : But b w w1) (n : Nat) : But b w (w1.drewN n) := ⟨h.os, h.tape, h.output, h.size, h.block⟩
theorem wr_step {b : List Int} {g cap k nd : Nat} {w1 wr : World} {cur : Array Value} {v : Int} (hg : wr.heap[g]? = some (.cells cur 80 (0, 0))) (hs : cur.size = cap) (hw : ∀ j, j < k → cur[j]? = some (.int .u64 (wdB b j))) (hb : But g w1 wr) (hk : k < cap) (hv : v = wdB b k) :
    Wr b g cap w1 (k + 1) ((wr.drewN nd).setCell ⟨g, k, none⟩ (.int .u64 v)) := by
  refine ⟨_, blk_set (blk_drewN hg nd) k _, by simp [hs], fun j hj => ?_, (but_drewN hb nd).set k _⟩
  by_cases e : j = k
  · subst e; rw [hv]; simp [hs, hk]
  · rw [Array.getElem?_setIfInBounds_ne (by omega)]; exact hw j (by omega)
theorem chunk_len {b : List Int} {i' k : Nat} (h : i' + 8 + 8 * k = b.length) : (b.take (i' + 8)).drop i' = (b.take (b.length - 8 * k)).drop (b.length - 8 * k - 8) := by
  have e1 : b.length - 8 * k = i' + 8 := by omega
  have e2 : i' + 8 - 8 = i' := by omega
  rw [e1, e2]

/-- the words of bytes, the lowest first, noughts at the end not left out -/
def wsB (b : List Int) : List Int := (List.range (b.length / 8)).map (wdB b) ++ (if b.length % 8 = 0 then [] else [bew (b.take (b.length % 8))])
theorem wsB_len (b : List Int) : (wsB b).length = (b.length + 7) / 8 := by
  unfold wsB; split <;> simp <;> omega
theorem wd_dig {b : List Int} (h : Dig 256 b) {j : Nat} (hj : 8 * j + 8 ≤ b.length) : 0 ≤ wdB b j ∧ wdB b j < 2 ^ 64 := by
  have hd : Dig 256 ((b.take (b.length - 8 * j)).drop (b.length - 8 * j - 8)) := fun x hx => h x (List.mem_of_mem_take (List.mem_of_mem_drop hx))
  have h1 := bew_lt hd
  have hl : ((b.take (b.length - 8 * j)).drop (b.length - 8 * j - 8)).length = 8 := by simp; omega
  rw [hl] at h1
  exact ⟨bew_nonneg hd, by exact h1⟩
theorem wsB_dig {b : List Int} (h : Dig 256 b) : Dig (2 ^ 64) (wsB b) := by
  refine Dig.app (fun x hx => ?_) ?_
  · obtain ⟨j, hj, rfl⟩ := List.mem_map.1 hx
    have := List.mem_range.1 hj
    exact wd_dig h (by omega)
  · split
    · intro x hx; cases hx
    · have hd : Dig 256 (b.take (b.length % 8)) := h.take _
      have h1 := bew_lt hd
      have hl : (b.take (b.length % 8)).length = b.length % 8 := by rw [List.length_take]; omega
      rw [hl] at h1
      have h2 : (256 : Int) ^ (b.length % 8) ≤ 2 ^ 64 := by
        have : b.length % 8 < 8 := Nat.mod_lt _ (by decide)
        generalize b.length % 8 = r at this
        match r, this with
        | 0, _ => decide
        | 1, _ => decide
        | 2, _ => decide
        | 3, _ => decide
        | 4, _ => decide
        | 5, _ => decide
        | 6, _ => decide
        | 7, _ => decide
      exact Dig.one (bew_nonneg hd) (by omega)
theorem ring3 (V P x y Q : Int) : V + P * y + P * Q * x = V + P * (x * Q + y) := by grind
theorem wsB_pre (b : List Int) : ∀ k, 8 * k ≤ b.length → val (2 ^ 64) ((List.range k).map (wdB b)) + (2 ^ 64) ^ k * bew (b.take (b.length - 8 * k)) = bew b
  | 0, _ => by simp [val]
  | k + 1, h => by
    have ih := wsB_pre b k (by omega)
    have hl : (b.take (b.length - 8 * k)) = b.take (b.length - 8 * (k + 1)) ++ (b.take (b.length - 8 * k)).drop (b.length - 8 * k - 8) := by
      have e : b.length - 8 * (k + 1) = b.length - 8 * k - 8 := by omega
      rw [e]
      have := (List.take_append_drop (b.length - 8 * k - 8) (b.take (b.length - 8 * k))).symm
      rw [List.take_take, Nat.min_eq_left (by omega)] at this
      exact this
    have h8 : ((b.take (b.length - 8 * k)).drop (b.length - 8 * k - 8)).length = 8 := by simp; omega
    have hv : bew (b.take (b.length - 8 * k)) = bew (b.take (b.length - 8 * (k + 1))) * 2 ^ 64 + wdB b k := by
      conv => lhs; rw [hl]
      rw [bew_app, h8]; rfl
    rw [List.range_succ, List.map_append, List.map_singleton, val_snoc, List.length_map, List.length_range, show ((2 : Int) ^ 64) ^ (k + 1) = (2 ^ 64) ^ k * 2 ^ 64 from Int.pow_succ _ _]
    rw [hv] at ih
    rw [← ih]
    exact ring3 _ _ _ _ _
theorem wsB_val {b : List Int} : val (2 ^ 64) (wsB b) = bew b := by
  have h := wsB_pre b (b.length / 8) (by omega)
  have e : b.length - 8 * (b.length / 8) = b.length % 8 := by omega
  rw [e] at h
  unfold wsB
  split
  · rename_i h0
    rw [h0] at h
    have : bew (b.take 0) = 0 := rfl
    rw [this, Int.mul_zero, Int.add_zero] at h
    rw [List.append_nil]; exact h
  · rw [val_snoc, List.length_map, List.length_range]; exact h
theorem wsB_rep {b : List Int} (h : Dig 256 b) : Rep (2 ^ 64) ((wsB b).take (nlTo (wsB b) (wsB b).length)) (bew b) := by
  have := rep_trim (wsB_dig h)
  rwa [wsB_val] at this
theorem wsB_low {b : List Int} {j : Nat} (h : j < b.length / 8) : (wsB b).getD j 0 = wdB b j := by
  unfold wsB
  rw [List.getD_eq_getElem?_getD, List.getElem?_append_left (by simpa using h)]
  simp [h]
theorem wsB_top {b : List Int} (h : b.length % 8 ≠ 0) : (wsB b).getD (b.length / 8) 0 = bew (b.take (b.length % 8)) := by
  unfold wsB
  rw [if_neg h, List.getD_eq_getElem?_getD, List.getElem?_append_right (by simp)]
  simp
theorem x256 {x : Int} (h : 0 ≤ x ∧ x < 256) {j : Nat} (hj : j < 7) : x * 2 ^ (8 * j) < 2 ^ 64 := by
  match j, hj with
  | 0, _ => omega
  | 1, _ => omega
  | 2, _ => omega
  | 3, _ => omega
  | 4, _ => omega
  | 5, _ => omega
  | 6, _ => omega
theorem p256 (j : Nat) : (256 : Int) ^ j = 2 ^ (8 * j) := by rw [Int.pow_mul, show (2 : Int) ^ 8 = 256 from by decide]
theorem top_step {b : List Int} {i t j : Nat} (hd : Dig 256 b) (h : t + 1 + j = i) (hi : i ≤ b.length) (hi8 : i < 8) :
    Go.bits .or .u64 (bew ((b.take i).drop (t + 1))) (IntKind.u64.wrap (IntKind.u64.wrap (b.getD t 0) * 2 ^ min (8 * j) 64)) = bew ((b.take i).drop t) := by
  have hx := hd.getD (by decide) t
  have hl : ((b.take i).drop (t + 1)).length = j := by simp; omega
  have hdd : Dig 256 ((b.take i).drop (t + 1)) := fun x hx => hd x (List.mem_of_mem_take (List.mem_of_mem_drop hx))
  have hlt := bew_lt hdd
  have h0 := bew_nonneg hdd
  rw [hl] at hlt
  have hdrop : (b.take i).drop t = [b.getD t 0] ++ (b.take i).drop (t + 1) := by
    rw [List.drop_eq_getElem_cons (by simp; omega)]
    simp [List.getD_eq_getElem?_getD, show t < b.length by omega]
  have hp := p256 j
  have hx64 := x256 hx (j := j) (by omega)
  have hx3 : b.getD t 0 < 18446744073709551616 := by omega
  have hs : 8 * j ≤ 63 := by omega
  rw [hp] at hlt
  rw [wrapU hx.1 hx3, hdrop, bew_app, hl]
  have e : bew [b.getD t 0] = b.getD t 0 := by simp [bew, val]
  have := or_shl (w := bew ((b.take i).drop (t + 1))) (x := b.getD t 0) (s := 8 * j) hs h0 hlt hx.1 hx64
  have e4 : shl .u64 (b.getD t 0) ((8 * j : Nat) : Int) = IntKind.u64.wrap (b.getD t 0 * 2 ^ min (8 * j) 64) := rfl
  rw [e4] at this
  rw [e, hp, this, Int.add_comm]
/-- what stands when all words are written -/
def Done (b : List Int) (g cap : Nat) (w1 wr : World) : Prop :=
  ∃ cur : Array Value, wr.heap[g]? = some (.cells cur 80 (0, 0)) ∧ cur.size = cap ∧ (∀ j, j < (wsB b).length → cur[j]? = some (.int .u64 ((wsB b).getD j 0))) ∧ But g w1 wr
theorem done_own {b : List Int} {g cap : Nat} {w1 wr : World} (h : Done b g cap w1 wr) (hn : (wsB b).length ≤ cap) (hc : cap ≤ 2000) : wr.ownsRow 0 80 1 (.slice (some ⟨g, 0, none⟩) (wsB b).length cap) (wsB b).length (nums .u64 (wsB b)) := by
  obtain ⟨cur, hg, hs, hw, _⟩ := h
  refine ⟨by simp [nums], .inr ⟨g, cap, cur, rfl, Nat.zero_le _, hg, hn, by unfold maxLen; omega, by omega, ?_⟩⟩
  rw [Nat.mul_one]
  apply List.ext_getElem?
  intro j
  rw [List.getElem?_take]
  by_cases hj : j < (wsB b).length
  · rw [if_pos hj, Array.getElem?_toList, hw j hj]
    simp [nums, List.getD_eq_getElem?_getD, hj]
  · rw [if_neg hj, eq_comm]; exact List.getElem?_eq_none (by simp [nums]; omega)
theorem done_of_wr {b : List Int} {g cap k : Nat} {w1 wr : World} (h : Wr b g cap w1 k wr) (hk : 0 + 8 * k = b.length) : Done b g cap w1 wr := by
  obtain ⟨cur, hg, hs, hw, hb⟩ := h
  refine ⟨cur, hg, hs, fun j hj => ?_, hb⟩
  rw [wsB_len] at hj
  rw [wsB_low (by omega)]; exact hw j (by omega)
theorem done_top {b : List Int} {g cap k r : Nat} {w1 wr : World} {v : Int} (h : Wr b g cap w1 k wr) (hk : r + 8 * k = b.length) (hr : r < 8) (_h0 : ¬ r = 0) (hc : k < cap) (hv : v = bew (b.take r)) : Done b g cap w1 (wr.setCell ⟨g, k, none⟩ (.int .u64 v)) := by
  obtain ⟨cur, hg, hs, hw, hb⟩ := h
  have e1 : b.length % 8 = r := by omega
  have e2 : b.length / 8 = k := by omega
  refine ⟨_, blk_set hg k _, by simp [hs], fun j hj => ?_, hb.set k _⟩
  rw [wsB_len] at hj
  by_cases e : j = k
  · subst e
    have := wsB_top (b := b) (by omega)
    rw [e2, e1] at this
    rw [this, hv]; simp [hs, hc]
  · rw [wsB_low (by omega), Array.getElem?_setIfInBounds_ne (by omega)]; exact hw j (by omega)

/-- what nat.setBytes gives -/
def SbOut (b : List Int) (A : Option Addr) (w : World) (e : Ending) (w' : World) : Prop :=
  ∃ g cap, e = .returned (.slice (some ⟨g, 0, none⟩) (nlTo (wsB b) (wsB b).length) cap) ∧ cap ≤ 2000 ∧ But g w w' ∧ (A = some ⟨g, 0, none⟩ ∨ w.heap.size ≤ g) ∧
    w'.ownsRow 0 80 1 (.slice (some ⟨g, 0, none⟩) (nlTo (wsB b) (wsB b).length) cap) (nlTo (wsB b) (wsB b).length) (nums .u64 ((wsB b).take (nlTo (wsB b) (wsB b).length)))
theorem sb_norm {b : List Int} {g cap n : Nat} {w1 wr : World} (h : Done b g cap w1 wr) (hn : n = (wsB b).length) (hnc : n ≤ cap) (hc : cap ≤ 2000) :
    Calls Try.prog 42 #[.slice (some ⟨g, 0, none⟩) n cap] wr fun e w' => e = .returned (.slice (some ⟨g, 0, none⟩) (nlTo (wsB b) (wsB b).length) cap) ∧ wr = w' := by
  subst hn
  exact norm_any (some ⟨g, 0, none⟩) cap (wsB b) (by omega) hnc (by omega) (fun h => by cases h) wr (own_reads' (done_own h hnc hc))
theorem sb_out {b : List Int} {g cap : Nat} {A : Option Addr} {w w1 wr : World} (h : Done b g cap w1 wr) (hnc : (wsB b).length ≤ cap) (hc : cap ≤ 2000) (hb : Below w.heap.size w w1) (hA : A = some ⟨g, 0, none⟩ ∨ w.heap.size ≤ g) :
    SbOut b A w (.returned (.slice (some ⟨g, 0, none⟩) (nlTo (wsB b) (wsB b).length) cap)) wr :=
  ⟨g, cap, rfl, hc, (But.of_below hb).trans h.choose_spec.2.2.2, hA, own_take (done_own h hnc hc) (nlTo_le _ _)⟩

set_option maxHeartbeats 4000000 in
set_option maxRecDepth 100000 in
theorem setBytes_core (A : Option Addr) (m cap : Nat) (hcap : cap ≤ 1000) (ad : Addr) (cb : Nat) (b : List Int) (h0 : 0 < b.length) (hb : b.length ≤ 100) (hcb : b.length ≤ cb) (hd : Dig 256 b) (w : World)
    (hz : (A = none ∧ cap = 0) ∨ ∃ g cur, A = some ⟨g, 0, none⟩ ∧ w.heap[g]? = some (.cells cur 80 (0, 0)) ∧ cur.size = cap) (hr : ReadsInt w .u8 (some ad) b.length b) (hlt : ad.block < w.heap.size) (hne : ∀ a, A = some a → ad.block ≠ a.block) :
    Calls Try.prog 43 #[.slice A m cap, .slice (some ad) b.length cb] w fun e w' => SbOut b A w e w' := by
  obtain ⟨n, hn⟩ : ∃ n, n = (b.length + 7) / 8 := ⟨_, rfl⟩
  obtain ⟨len, hlen⟩ : ∃ n, n = b.length := ⟨_, rfl⟩
  have HM := Lib.hid (make_own A m cap n (by omega) (by omega) hcap w hz)
  have ecap : wrap64 (Int.tdiv (wrap64 (wrap64 ((len : Int) + 8) - 1)) 8) = (n : Int) := by
    rw [Spec.w64 (i := (len : Int) + 8) (by omega) (by omega), Spec.w64 (i := (len : Int) + 8 - 1) (by omega) (by omega), Int.tdiv_eq_ediv_of_nonneg (by omega), Spec.w64 (by omega) (by omega)]; omega
  have HE := Lib.hid ecap
  have HN : Hid (n = (len + 7) / 8) := Lib.hid (by rw [hn, hlen])
  rw [← hlen]
  have HR := Lib.hid hr
  have HL := Lib.hid hlen
  have HB := Lib.hid hb
  have HD := Lib.hid hd
  have HCB : Hid (len ≤ cb) := Lib.hid (by omega)
  have HNE := Lib.hid hne
  have HLT := Lib.hid hlt
  clear hr hb hz ecap hd hne hlt hn hcb hlen h0
  obtain ⟨i06, hi06, _, hsz6, _⟩ := info_parts info5
  go_enter Try.func43, Try.ntmps43
  go_wp2_with fail
  rw [HE.out]
  refine HM.out.mono ?_
  rintro e w1 ⟨g, cap', cur0, rfl, hnc, hc2, hg0, hs0, hbel, hgA⟩
  have HG0 := Lib.hid hg0
  have HS0 := Lib.hid hs0
  have HBEL := Lib.hid hbel
  have HGA := Lib.hid hgA
  have HNC := Lib.hid hnc
  have HADG : Hid (¬ ad.block = g) := Lib.hid (by
    rcases hgA with h | h
    · exact HNE.out _ h
    · have := HLT.out; omega)
  have HR1 := Lib.hid (HR.out.below hbel)
  clear hg0 hs0 hbel hgA hnc HM HE
  go_wp2_with fail
  go_loopw [5, 6] (fun v5 v6 wr => ∃ k i : Nat, i + 8 * k = len ∧ v5 = .int .i64 i ∧ v6 = .int .i64 k ∧ Wr b g cap' w1 k wr) (fun v5 _ _ => (intOf v5).toNat)
  case atStart => exact ⟨0, len, by omega, rfl, rfl, cur0, HG0.out, HS0.out, fun j hj => absurd hj (Nat.not_lt_zero _), But.refl _ _⟩
  case round =>
    obtain ⟨k, i, hik, rfl, rfl, hwr⟩ := hrel
    have HWR := Lib.hid hwr
    clear hwr
    by_cases h8 : 8 ≤ i
    · obtain ⟨i', rfl⟩ : ∃ j, i = j + 8 := ⟨i - 8, by omega⟩
      have d8 : decide ((8 : Int) ≤ (i' : Int) + 8) = true := decide_eq_true (by omega)
      have hb' := HB.out
      have hl' := HL.out
      have hcb' := HCB.out
      have e8 : wrap64 (i' : Int) = (i' : Int) := Spec.w64 (by omega) (by omega)
      have nc : ¬ cb = i' := by omega
      have hic : i' + 8 ≤ cb := by omega
      clear hb' hl' hcb'
      go_wp2_with fail
      obtain ⟨cur, hg, hs, hw, hbut⟩ := HWR.out
      have HG := Lib.hid hg
      have HS := Lib.hid hs
      have HWW := Lib.hid hw
      have HBUT := Lib.hid hbut
      have hk : k < cap' := by have := HNC.out; have := HN.out; omega
      have HK := Lib.hid hk
      have hchunk := reads_chunk (reads_but HR1.out hbut HADG.out (by have := HLT.out; have := HBEL.out.size; omega)) i' 8 (by have := HL.out; omega)
      have hcd : Dig 256 ((b.take (i' + 8)).drop i') := fun x hx => HD.out x (List.mem_of_mem_take (List.mem_of_mem_drop hx))
      refine (bew_any (ad.add i') (cb - i') _ hchunk.1 (by omega) hcd wr hchunk).mono ?_
      rintro e w2 ⟨rfl, nd, rfl⟩
      have hv : bew ((b.take (i' + 8)).drop i') = wdB b k := by rw [chunk_len (k := k) (by have := HL.out; omega)]; rfl
      rw [hv]
      have hkc : k < cur.size := by omega
      have X : (wr.drewN nd).cell? ⟨g, k, none⟩ = some cur[k] := by rw [blk_cell (blk_drewN hg nd) k]; simp [hkc]
      have F := blk_frozen (blk_drewN hg nd) k
      have hkn : k < n := by have := HN.out; omega
      clear hg hs hw hbut hchunk hcd hv HWR
      generalize cur[k] = c0 at X
      go_wp2_with fail
      rw [e8]
      refine ⟨⟨k + 1, i', by omega, rfl, congrArg _ (by omega), wr_step HG.out HS.out HWW.out HBUT.out hk rfl⟩, ?_⟩
      simp only [intOf, Int.toNat_natCast]; omega
    · have d8 : decide ((8 : Int) ≤ (i : Int)) = false := decide_eq_false (by omega)
      by_cases h0 : i = 0
      · subst h0
        have HDN : Hid (Done b g cap' w1 wr) := Lib.hid (done_of_wr HWR.out (by have := HL.out; omega))
        have HNW : Hid (n = (wsB b).length) := Lib.hid (by rw [wsB_len, ← HL.out]; exact HN.out)
        go_wp2_with fail
        refine (sb_norm HDN.out HNW.out HNC.out hc2).mono ?_
        rintro e w' ⟨rfl, rfl⟩
        go_wp2_with fail
        go_ret
        exact sb_out HDN.out (by rw [← HNW.out]; exact HNC.out) hc2 HBEL.out HGA.out
      · have d0 : decide ((0 : Int) < (i : Int)) = true := decide_eq_true (by omega)
        have hi8 : i < 8 := by omega
        clear h8
        have hx0 := HL.out
        have hx1 := HB.out
        have hx2 := HCB.out
        have hRb := reads_but HR1.out HWR.out.choose_spec.2.2.2 HADG.out (by have := HLT.out; have := HBEL.out.size; omega)
        have HRB := Lib.hid hRb
        clear hRb
        go_wp2_with fail
        go_loop [5, 7, 8] (fun v5 v7 v8 => ∃ t j : Nat, t + j = i ∧ v5 = .int .i64 t ∧ v7 = .int .u64 (bew ((b.take i).drop t)) ∧ v8 = .int .u64 ((8 * j : Nat) : Int)) (fun v5 _ _ => (intOf v5).toNat)
        case atStart => exact ⟨i, 0, rfl, rfl, by rw [List.drop_of_length_le (by simp; omega)]; rfl, rfl⟩
        case round =>
          obtain ⟨t, j, htj, rfl, rfl, rfl⟩ := hrel
          match t, htj with
          | 0, htj =>
            obtain ⟨cur, hg, hs, _, _⟩ := HWR.out
            have hk : k < n := by have := HN.out; omega
            have hkc : k < cap' := by have := HNC.out; omega
            have hcs : k < cur.size := by omega
            have X : wr.cell? ⟨g, k, none⟩ = some cur[k] := by rw [blk_cell hg k]; simp [hcs]
            have F := blk_frozen hg k
            have en : n = k + 1 := by have := HN.out; omega
            have hDN : Done b g cap' w1 (wr.setCell ⟨g, k, none⟩ (.int .u64 (bew ((b.take i).drop 0)))) := done_top HWR.out (by omega) hi8 h0 hkc rfl
            have HDN := Lib.hid hDN
            have HNW : Hid (n = (wsB b).length) := Lib.hid (by rw [wsB_len, ← HL.out]; exact HN.out)
            have hw1 : wrap64 (k : Int) = k := Spec.w64 (by omega) (by omega)
            subst en
            obtain ⟨D, hD⟩ : ∃ D, D = bew ((b.take i).drop 0) := ⟨_, rfl⟩
            rw [← hD] at HDN ⊢
            generalize cur[k] = c0 at X
            clear hD hDN hx0 hx1 hx2 hik hi8 d8 d0 h0 hg hs hcs htj
            go_wp2_with fail
            clear hw1
            refine (sb_norm HDN.out HNW.out HNC.out hc2).mono ?_
            rintro e w' ⟨rfl, rfl⟩
            go_wp2_with fail
            go_ret
            exact sb_out HDN.out (by rw [← HNW.out]; exact HNC.out) hc2 HBEL.out HGA.out
          | t + 1, htj =>
            have hcell : wr.cell? (ad.add t) = some (.int .u8 (b.getD t 0)) := by
              obtain ⟨ad', e, hcl⟩ := HRB.out.2.2 (by omega)
              cases e
              exact hcl t (by omega)
            obtain ⟨x, hx⟩ : ∃ x, x = b.getD t 0 := ⟨_, rfl⟩
            rw [← hx] at hcell
            obtain ⟨D, hD⟩ : ∃ D, D = bew ((b.take i).drop (t + 1)) := ⟨_, rfl⟩
            obtain ⟨S, hS⟩ : ∃ S, S = 8 * j := ⟨_, rfl⟩
            rw [← hD, ← hS]
            have HDD := Lib.hid hD
            have HSS := Lib.hid hS
            have HXX := Lib.hid hx
            have HTJ := Lib.hid htj
            have htl : t < len := by omega
            have hw1 : wrap64 (t : Int) = t := Spec.w64 (by omega) (by omega)
            have HI8 := Lib.hid hi8
            clear hD hS hx htj hx0 hx1 hx2 hi8 d8 d0 h0
            go_wp2_with fail
            rw [hw1]
            clear hw1
            have hl := HL.out
            have hb := HB.out
            have htj := HTJ.out
            have hss := HSS.out
            have hi8 := HI8.out
            refine ⟨⟨t, j + 1, by omega, rfl, ?_, ?_⟩, ?_⟩
            · have e := top_step (t := t) (j := j) HD.out htj (by omega) hi8
              rw [HDD.out, hss, HXX.out, e]
            · have e : ((S : Int) + 8) = ((8 * (j + 1) : Nat) : Int) := by omega
              have e2 : IntKind.u64.wrap ((S : Int) + 8) = (S : Int) + 8 := wrapU (by omega) (by omega)
              rw [e2, e]
            · simp only [intOf, Int.toNat_natCast]; omega
end Go.Proofs.Ytdfcomilhjoooaa.Be
