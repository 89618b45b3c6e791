/- nat.itoa at base ten: at most three words. -/
import Derived.Test.YtdfcomilhjoooaaGreatDoorItoa1
import Derived.Test.YtdfcomilhjoooaaGreatDoorEst
import Derived.Test.YtdfcomilhjoooaaGreatDoorLog2
import Derived.Test.YtdfcomilhjoooaaGreatDoorBitG
import Derived.Lib.SlBytesConst
namespace Go.Proofs.YtdfcomilhjoooaaGreatDoor.Div
open Go.RowKit Go.Proofs.YtdfcomilhjoooaaGreatDoorW.PrintWords Go.Proofs.YtdfcomilhjoooaaGreatDoor.Base Go.Proofs.YtdfcomilhjoooaaGreatDoor.Num Go.Proofs.YtdfcomilhjoooaaGreatDoor.Flo Go.Proofs.YtdfcomilhjoooaaGreatDoor.Byt
set_option linter.unusedVariables false

theorem infoB : (Tryz.prog.info? 5).map (fun i => (i.zero, i.size, i.bytes)) = some (some (.int .u8 0), 1, 1) := by kernel_rfl
open Classical in
/-- the room that itoa makes for a number of so many bits -/
noncomputable def room (L : Nat) : Nat := if h : ∃ N f q, Est L f q N then h.choose + 1 else 0
theorem room_is (L : Nat) (h0 : 1 ≤ L) (h1 : L ≤ 192) : ∃ f q N, room L = N + 1 ∧ Est L f q N := by
  obtain ⟨f, q, N, h⟩ := est_all L h0 h1
  have hex : ∃ N f q, Est L f q N := ⟨N, f, q, h⟩
  obtain ⟨f', q', h'⟩ := hex.choose_spec
  exact ⟨f', q', hex.choose, by unfold room; rw [dif_pos hex], h'⟩
theorem val_bit {l : List Int} (hd : Dig 18446744073709551616 l) (h0 : 0 < l.length) : val 18446744073709551616 l < 2 ^ bitL l := by
  obtain ⟨n, hn⟩ : ∃ n, l.length = n + 1 := ⟨l.length - 1, by omega⟩
  have hx := hd.getD (by decide) n
  have ho := orc_b hx.1 hx.2
  have hb := bl_lt (orc (l.getD n 0)).toNat (by omega)
  have e : bitL l = 64 * n + Lib.bitLen (orc (l.getD n 0)).toNat := by unfold bitL; rw [if_neg (by omega), hn, Nat.add_sub_cancel]
  have hs : l = l.take n ++ [l.getD n 0] := by
    have := Num.take_succ l n (by omega)
    rw [← this, List.take_of_length_le (by omega)]
  have hlow := Byt.val_lt (B := 18446744073709551616) (by decide) (hd.take n)
  have hlen : (l.take n).length = n := by rw [List.length_take]; omega
  rw [hlen] at hlow
  have hv : val 18446744073709551616 l = val 18446744073709551616 (l.take n) + 18446744073709551616 ^ n * l.getD n 0 := by
    conv => lhs; rw [hs]
    rw [val_snoc, hlen]
  generalize l.getD n 0 = x at hx ho hb e hv
  generalize Lib.bitLen (orc x).toNat = k at hb e
  have hx2 : x + 1 ≤ 2 ^ k := by
    have h1 : ((orc x).toNat : Int) < ((2 ^ k : Nat) : Int) := Int.ofNat_lt.2 hb
    have h2 : ((orc x).toNat : Int) = orc x := by omega
    have h3 : ((2 ^ k : Nat) : Int) = 2 ^ k := by push_cast; rfl
    rw [h2, h3] at h1
    omega
  have e2 : (2 : Int) ^ (64 * n + k) = 18446744073709551616 ^ n * 2 ^ k := by
    rw [Int.pow_add, Int.pow_mul]; rfl
  rw [e, hv, e2]
  have hp : (0 : Int) ≤ 18446744073709551616 ^ n := Int.pow_nonneg (by decide)
  have := Int.mul_le_mul_of_nonneg_left hx2 hp
  rw [Int.mul_add, Int.mul_one] at this
  omega
/-- the text of a number -/
noncomputable def tx (l : List Int) : List Int := if l.length = 0 then [48] else txt (val 18446744073709551616 l) (room (bitL l))
theorem room_fits {l : List Int} (hd : Dig 18446744073709551616 l) (h0 : 0 < l.length) (hn : Nrm l) (hl : l.length ≤ 3) : 1 ≤ room (bitL l) ∧ room (bitL l) ≤ 101 ∧ val 18446744073709551616 l < 10 ^ room (bitL l) := by
  have h1 := bitL_pos hd hn h0
  have h2 := bitL_le l
  obtain ⟨f, q, N, hr, hE⟩ := room_is (bitL l) h1 (by omega)
  have h3 := val_bit hd h0
  have h4 := hE.2.2.2.2
  have h5 := hE.2.2.2.1
  rw [hr]
  refine ⟨by omega, by omega, Int.lt_of_lt_of_le h3 ?_⟩
  exact_mod_cast h4
theorem txt_end {V : Int} {N z h : Nat} {w' : World} (hV : 0 < V) (hlt : V < 10 ^ N) (hd : DS V N h 0 w') (hN : N ≤ 1000) (hz : z < N) (h1 : ∀ i, i < z → fig V (N - 1 - i) = 48) (h2 : ¬ fig V (N - 1 - z) = 48) :
    (txt V N).length = N - z ∧ ReadsInt w' .u8 (some ⟨h, z, none⟩) (txt V N).length (txt V N) := by
  have e := txt_is hz h1 h2
  have hl : (txt V N).length = N - z := by rw [e, List.length_drop, full_len]
  obtain ⟨sb, d1, d2, d3⟩ := hd
  refine ⟨hl, rfl, by omega, fun _ => ⟨_, rfl, fun j hj => ?_⟩⟩
  have ea : (⟨h, z, none⟩ : Addr).add j = ⟨h, z + j, none⟩ := by by_cases hj0 : j = 0 <;> simp [Addr.add, hj0]
  rw [ea, blk_cell d1 (z + j)]
  have := d3 (N - 1 - (z + j)) (by omega)
  rw [show N - 1 - (N - 1 - (z + j)) = z + j by omega] at this
  rw [this]
  have hf : (txt V N).getD j 0 = fig V (N - 1 - (z + j)) := by
    rw [e, ← full_getD V N (z + j) (by omega)]
    simp only [List.getD_eq_getElem?_getD, List.getElem?_drop]
  rw [hf]

/-- what itoa gives -/
def ItOut (l : List Int) (w : World) (e : Ending) (w' : World) : Prop := ∃ ad c, e = .returned (.slice (some ad) (tx l).length c) ∧ (tx l).length ≤ c ∧ ReadsInt w' .u8 (some ad) (tx l).length (tx l) ∧ Below w.heap.size w w'
theorem it_end {l : List Int} {N z h : Nat} {w w' : World} (hn0 : 0 < l.length) (hN : N = room (bitL l)) (hV : 0 < val 18446744073709551616 l) (hlt : val 18446744073709551616 l < 10 ^ N) (hd : DS (val 18446744073709551616 l) N h 0 w') (hN2 : N ≤ 1000) (hz : z < N)
    (h1 : ∀ i, i < z → fig (val 18446744073709551616 l) (N - 1 - i) = 48) (h2 : ¬ fig (val 18446744073709551616 l) (N - 1 - z) = 48) (hb : Below w.heap.size w w') :
    ItOut l w (.returned (.slice (some ⟨h, z, none⟩) (N - z) (N - z))) w' := by
  have ht : tx l = txt (val 18446744073709551616 l) N := by unfold tx; rw [if_neg (by omega), ← hN]
  obtain ⟨k1, k2⟩ := txt_end hV hlt hd hN2 hz h1 h2
  exact ⟨_, N - z, by rw [ht, k1], by rw [ht, k1]; exact Nat.le_refl _, by rw [ht]; exact k2, hb⟩

theorem own_ws {w : World} {B c' : Nat} {A' : Option Addr} {l : List Int} (h0 : 0 < l.length) (hl : l.length ≤ 100) (hd : Dig 18446744073709551616 l) (hn : Nrm l) (h : w.ownsRow B 74 1 (.slice A' l.length c') l.length (nums .u64 l)) :
    ∃ g, A' = some ⟨g, 0, none⟩ ∧ B ≤ g ∧ WS g c' l w := by
  have hr := own_reads' h
  rcases h.2 with ⟨hv, h2⟩ | ⟨g, cap, cur, hv, hB, hh, hcap, hmax, hcs, _⟩
  · injection hv with _ h3 _; omega
  · injection hv with h3 _ h5
    subst h3; subst h5
    refine ⟨g, rfl, hB, cur, hh, by simpa using hcs, fun j hj => ?_, hd, hn, hl, hcap⟩
    obtain ⟨ad, e, hc⟩ := hr.2.2 h0
    cases e
    have := hc j hj
    have ea : (⟨g, 0, none⟩ : Addr).add j = ⟨g, 0 + j, none⟩ := by by_cases hj0 : j = 0 <;> simp [Addr.add, hj0]
    rw [ea, blk_cell hh, Nat.zero_add] at this
    exact this

set_option maxRecDepth 100000 in
set_option maxHeartbeats 8000000 in
theorem itoa_c (A : Option Addr) (c : Nat) (l : List Int) (hl : l.length ≤ 3) (hd : Dig 18446744073709551616 l) (hn : Nrm l) (w : World) (hr : ReadsInt w .u64 A l.length l) (hleaf : w.cell? ⟨1, 0, none⟩ = some (.int .i64 8)) (hlt : 1 < w.heap.size) :
    Calls Tryz.prog 46 #[.slice A l.length c, .bool false, .int .i64 10] w fun e w' => ItOut l w e w' := by
  rcases Nat.eq_zero_or_pos l.length with h0 | h0
  · obtain rfl : l = [] := List.eq_nil_of_length_eq_zero h0
    clear hr hd hn hl h0
    have hcv := Lib.run_convert_bytes_const (P := Tryz.prog) w 22 5 #[.int .u8 48] 1 1 Tryz.underlying22 Tryz.underlying5
    go_enter_defers Tryz.func46, Tryz.ntmps46
    have hcell : (w.alloc (.cells #[.int .u8 48] 5 (1, 2))).cell? ⟨w.heap.size, 0, none⟩ = some (.int .u8 48) := World.cell?_alloc_mark w _ _ _ 0
    have hres : ItOut [] w (.returned (.slice (some ⟨w.heap.size, 0, none⟩) 1 1)) (w.alloc (.cells #[.int .u8 48] 5 (1, 2))) := by
      refine ⟨⟨w.heap.size, 0, none⟩, 1, rfl, by simp [tx], ⟨rfl, by simp [tx], fun _ => ⟨_, rfl, fun j hj => ?_⟩⟩, below_alloc (Below.refl _ _) _⟩
      obtain rfl : j = 0 := by simpa [tx] using hj
      exact hcell
    have HRES := Lib.hid hres
    clear hres hcell
    go_wp2_with fail
    refine ⟨_, results_tmp rfl _ _ _, ?_⟩
    exact HRES.out
  · have hbl := Lib.hid (bitLen_any A c l (by omega) hd w hr)
    obtain ⟨r1, r2, r3⟩ := room_fits hd h0 hn hl
    obtain ⟨f, q, N', hrm, hE⟩ := room_is (bitL l) (bitL_pos hd hn h0) (by have := bitL_le l; omega)
    obtain ⟨e1, e2, e3, e4, _⟩ := hE
    obtain ⟨i0, hi, hz0, hz1, hz2⟩ := info_parts infoB
    obtain ⟨n, hnn⟩ : ∃ n, n = l.length := ⟨_, rfl⟩
    obtain ⟨L, hL⟩ : ∃ L, L = bitL l := ⟨_, rfl⟩
    rw [← hL] at e1 hbl r1 r2 r3 hrm
    rw [← hnn] at hbl ⊢
    have HNN := Lib.hid hnn
    have hmk : ∀ u : World, (Instr.makeSlice 22 (.int .i64 ((N' : Int) + 1)) (.int .i64 ((N' : Int) + 1))).run Tryz.prog u = .ok (.slice (some ⟨u.heap.size, 0, none⟩) (N' + 1) (N' + 1)) (u.alloc (.cells (madeCells #[.int .u8 0] (N' + 1)) 5)) := fun u => by
      have h := run_make (P := Tryz.prog) u 22 5 i0 (.int .u8 0) Tryz.underlying22 hi hz0 .i64 .i64 ((N' : Int) + 1) ((N' : Int) + 1) (by omega) (by omega) (by rw [hz2]; omega) (by omega)
      have e : ((N' : Int) + 1).toNat = N' + 1 := by omega
      rw [e] at h
      simpa [hz1, Value.cells] using h
    have hn0 : ((n : Int) == 0) = false := by simp; omega
    have hnp : 0 < n := by omega
    have HL := Lib.hid hL
    have HR := Lib.hid hr
    clear hnn hL hr
    go_enter_defers Tryz.func46, Tryz.ntmps46
    have cv10 : ∀ u : World, (convert 3 90 (.int .i64 10)).run Tryz.prog u = .ok (.float .f64 4621819117588971520) u := fun u => by kernel_rfl
    go_wp2_with fail
    refine hbl.out.mono ?_
    rintro e w' ⟨rfl, rfl⟩
    go_wp2_with fail
    refine (Log2_ten w).mono ?_
    rintro e w' ⟨rfl, rfl⟩
    have hb10 : Go.bits .and .u64 10 18446744073709551606 = 2 := by kernel_rfl
    go_wp2_with fail
    refine (getStack_c _).mono ?_
    rintro e w' ⟨rfl, rfl⟩
    go_wp2_with fail
    refine (maxPow_ten _).mono ?_
    rintro e w' ⟨rfl, rfl⟩
    go_wp2_with fail
    obtain ⟨W, hW⟩ : ∃ W, W = (w.alloc (.cells (madeCells #[.int .u8 0] (N' + 1)) 5)).alloc (.cells #[.pointer none] 117) := ⟨_, rfl⟩
    have hbW : Below w.heap.size w W := by rw [hW]; exact below_alloc (below_alloc (Below.refl _ _) _) _
    have hSb : W.heap[w.heap.size]? = some (.cells (madeCells #[.int .u8 0] (N' + 1)) 5 (0, 0)) := by rw [hW]; exact blk_alloc (blk_new w _) _
    have hSt : W.heap[w.heap.size + 1]? = some (.cells #[.pointer none] 117 (0, 0)) := by
      rw [hW]; have := blk_new (w.alloc (.cells (madeCells #[.int .u8 0] (N' + 1)) 5)) (.cells #[.pointer none] 117); rw [World.size_alloc] at this; exact this
    have hsz : W.heap.size = w.heap.size + 2 := by rw [hW]; simp
    have hlW : W.cell? ⟨1, 0, none⟩ = some (.int .i64 8) := pw_cell_below hbW hleaf
    rw [← hW]
    have HBW := Lib.hid hbW
    have HSB := Lib.hid hSb
    have HST := Lib.hid hSt
    have HSZ := Lib.hid hsz
    refine (divisors_nil _ n (by have := HNN.out; omega) W hlW).mono ?_
    rintro e w' ⟨rfl, rfl⟩
    have HSET := Lib.hid (set_nil A c l (by omega) W (by rw [← HNN.out] at *; exact HR.out.below HBW.out))
    clear hW hbW hSb hSt hsz hlW
    rw [← HNN.out] at HSET
    go_wp2_with fail
    refine HSET.out.mono ?_
    rintro e w2 ⟨A', c', rfl, hown, hc', hA', hb2⟩
    have HOWN := Lib.hid hown
    have HB2 := Lib.hid hb2
    have HC2 := Lib.hid hc'
    clear hown hb2 hc' hA' HSET
    obtain ⟨g, rfl, hg, hws⟩ := own_ws h0 (by omega) hd hn (by rw [← HNN.out]; exact HOWN.out)
    have hsb2 : w2.heap[w.heap.size]? = some (.cells (madeCells #[.int .u8 0] (N' + 1)) 5 (0, 0)) := blk_below HSB.out HB2.out
    have HCV := Lib.hid (conv_c w.heap.size (w.heap.size + 1) g c' w.heap.size (N' + 1) l none (by omega) (by have := HC2.out; have := HNN.out; omega) (by rw [← hrm]; exact r3) (by have := HSZ.out; omega) w2 (by have := HSZ.out; have := HB2.out.size; omega) (by have := HSZ.out; have := HB2.out.size; omega) hws
      ⟨_, hsb2, by have := made_len (.int .u8 0) (N' + 1); simpa using this⟩ (.pointer (some ⟨w.heap.size + 1, 0, none⟩)))
    have hst2 := blk_below HST.out HB2.out
    have HST2 := Lib.hid hst2
    rw [← HNN.out] at HCV
    have HVP : Hid (0 < val 18446744073709551616 l) := Lib.hid (ws_pos hws h0)
    have HBW2 : Hid (Below w.heap.size w w2) := Lib.hid (HBW.out.trans (HB2.out.mono (by have := HSZ.out; omega)))
    have HR3 : Hid (val 18446744073709551616 l < 10 ^ (N' + 1)) := Lib.hid (by rw [← hrm]; exact r3)
    have HRM : Hid (N' + 1 = room (bitL l)) := Lib.hid (by rw [← hrm, HL.out])
    clear hws hsb2 hst2 hg r3 hrm hd hn hl
    go_wp2_with fail
    refine HCV.out.mono ?_
    rintro e w3 ⟨rfl, hds, hbk⟩
    have HDS := Lib.hid hds
    have HBK := Lib.hid hbk
    clear hds hbk HCV
    obtain ⟨V, hV⟩ : ∃ V, V = val 18446744073709551616 l := ⟨_, rfl⟩
    rw [← hV] at HDS HVP HR3
    have HVE := Lib.hid hV
    clear hV
    obtain ⟨N, hN⟩ : ∃ N, N = N' + 1 := ⟨_, rfl⟩
    have hN' : ((N' : Int) + 1) = (N : Int) := by omega
    rw [← hN] at HDS HR3 HRM ⊢
    have hN101 : N ≤ 101 := by omega
    clear hmk e1 e2 e3 hN
    go_wp2_with fail
    go_loop [7] (fun v7 => ∃ i : Nat, i ≤ N ∧ v7 = .int .i64 i ∧ ∀ i', i' < i → fig V (N - 1 - i') = 48) (fun v7 => N - (intOf v7).toNat)
    case atStart => exact ⟨0, Nat.zero_le _, rfl, fun i' h => absurd h (Nat.not_lt_zero _)⟩
    case round =>
      obtain ⟨i, hi, rfl, hall⟩ := hrel
      have hiN : i < N := by
        rcases Nat.lt_or_ge i N with h | h
        · exact h
        · exfalso
          have hz := all_nought (V := V) N (fun p hp => by
            have := hall (N - 1 - p) (by omega)
            rw [show N - 1 - (N - 1 - p) = p by omega] at this
            unfold fig at this; omega)
          rw [Int.ediv_eq_zero_of_lt (Int.le_of_lt HVP.out) HR3.out, Int.mul_zero] at hz
          have := HVP.out
          omega
      have hc : w3.cell? ⟨w.heap.size, i, none⟩ = some (.int .u8 (fig V (N - 1 - i))) := by
        obtain ⟨sb, d1, d2, d3⟩ := HDS.out
        rw [blk_cell d1 i]
        have := d3 (N - 1 - i) (by omega)
        rwa [show N - 1 - (N - 1 - i) = i by omega] at this
      obtain ⟨z, hz⟩ : ∃ z, z = fig V (N - 1 - i) := ⟨_, rfl⟩
      rw [← hz] at hc
      have HZ := Lib.hid hz
      have HALL := Lib.hid hall
      clear hz hall
      by_cases h48 : z = 48
      · subst h48
        have hm : N - (i + 1) < N - i := by omega
        go_wp2_with fail
        refine ⟨⟨i + 1, hiN, by rw [Int.natCast_add]; rfl, fun i' hi' => ?_⟩, ?_⟩
        · by_cases e : i' = i
          · subst e; exact HZ.out.symm
          · exact HALL.out i' (by omega)
        · have e2 : ((i : Int) + 1).toNat = i + 1 := by omega
          simp only [intOf, Int.toNat_natCast, e2]
          exact hm
      · have hb : (z == 48) = false := by simpa using h48
        have hend := it_end (w := w) (w' := w3) h0 HRM.out (by rw [← HVE.out]; exact HVP.out) (by rw [← HVE.out]; exact HR3.out) (by rw [← HVE.out]; exact HDS.out) (by omega) hiN (by rw [← HVE.out]; exact HALL.out) (by rw [← HVE.out, ← HZ.out]; exact h48) (HBW2.out.trans HBK.out.bel)
        have HEND := Lib.hid hend
        have hst3 : w3.cell? ⟨w.heap.size + 1, 0, none⟩ = some (.pointer none) := blk_cell (HBK.out.kp.trans HST2.out) 0
        have HST3 := Lib.hid hst3
        clear hend hst3
        go_wp2_with fail
        refine leaves_cons (f := 60) (args := #[.pointer (some ⟨w.heap.size + 1, 0, none⟩)]) (by simp) (by simp [go_sem]) ?_
        refine (free_c (w.heap.size + 1) .returning w3 HST3.out).mono ?_
        rintro e u' w4 ⟨rfl, rfl, rfl⟩
        refine ⟨_, results_tmp rfl _ _ _, ?_⟩
        exact HEND.out
end Go.Proofs.YtdfcomilhjoooaaGreatDoor.Div
