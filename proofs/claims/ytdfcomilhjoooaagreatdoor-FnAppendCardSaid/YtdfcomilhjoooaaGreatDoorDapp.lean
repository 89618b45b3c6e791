/- Decimal.Append at the formats e, E, f, g, G. (Printed by gen_dapp.py.) -/
import Derived.Test.YtdfcomilhjoooaaGreatDoorDap0
namespace Go.Proofs.YtdfcomilhjoooaaGreatDoor.Div
open Go.RowKit Go.Sort Go.Lib Go.Proofs.YtdfcomilhjoooaaGreatDoorW.PrintWords Go.Proofs.YtdfcomilhjoooaaGreatDoor.Base Go.Proofs.YtdfcomilhjoooaaGreatDoor.Num Go.Proofs.YtdfcomilhjoooaaGreatDoor.Flo Go.Proofs.YtdfcomilhjoooaaGreatDoor.Byt
set_option linter.unusedVariables false

theorem tab_ne {k g0 g n c : Nat} {w0 w : World} {bs : List Int} (hf : Fm g0 w0 (.slice (some ⟨g, 0, none⟩) n c) bs w) (hk : k < w0.heap.size) (hne : ¬ k = g0) : ¬ k = g := by
  obtain ⟨g', c', cells, t', hv, hg, _⟩ := hf.row
  injection hv with e1 e2 e3
  injection e1 with e1
  injection e1 with e1
  omega
theorem tab_lt {w : World} (ht : Lib.TabIs Tryz.prog w "internal/strconv.uint64pow10" .u64 Lib.pow10Tab) : 7 < w.heap.size := by
  unfold Lib.TabIs World.var? at ht
  have e : Tryz.prog.globalNamed "internal/strconv.uint64pow10" = some 7 := by kernel_rfl
  rw [e] at ht
  simp only [Option.bind_some] at ht
  rcases Nat.lt_or_ge 7 w.heap.size with h' | h'
  · exact h'
  · rw [Array.getElem?_eq_none h'] at ht; cases ht
theorem tx_le {l : List Int} (hd : Dig 18446744073709551616 l) (hn : Nrm l) (hl : l.length ≤ 3) : (tx l).length ≤ 200 := by have := tx_len hd hn hl; omega
theorem fe_c {D t g0 cB : Nat} {ex : Int} {neg : Bool} {A : Option Addr} {l : List Int} {w0 w : World} (hs : Src0 D t g0 cB ex neg A l w0) {g n c m cd : Nat} {bs : List Int} {ad : Addr} (h0 : -100 ≤ ex) (h1 : ex ≤ 100) (hbs : bs.length ≤ 1000)
    (hf : Fm g0 w0 (.slice (some ⟨g, 0, none⟩) n c) bs w) (hm : m = (tx l).length) (hl : (tx l).length ≤ cd) (hr : ReadsInt w .u8 (some ad) (tx l).length (tx l)) (hlt : ad.block < w.heap.size) (had : ad.block ≠ g) (f : Int) :
    Calls Tryz.prog 22 #[.slice (some ⟨g, 0, none⟩) n c, .int .u8 f, .pointer (some ⟨D, 0, none⟩), .slice (some ad) m cd] w fun e w' => ∃ v', e = .returned v' ∧ Fm g0 w0 v' (bs ++ fE f ex (tx l)) w' := by
  subst hm
  refine (fmtE_c g D t cd f ex _ bs (tx l) ad _ w (fm_self hf) hr hlt had (hf.oldb hs.dec hs.dne) rfl (by omega) (by omega) (tx_pos hs.dig hs.nrm hs.len) hl (tx_le hs.dig hs.nrm hs.len) hbs (tab_fm hf hs.tabne hs.tab) (tab_ne hf (tab_lt hs.tab) hs.tabne)).mono ?_
  rintro e w' ⟨v', rfl, h⟩
  exact ⟨v', rfl, fm_on hf h⟩
theorem ff_c {D t g0 cB : Nat} {ex : Int} {neg : Bool} {A : Option Addr} {l : List Int} {w0 w : World} (hs : Src0 D t g0 cB ex neg A l w0) {g n c m cd : Nat} {bs : List Int} {ad : Addr} (h0 : -100 ≤ ex) (h1 : ex ≤ 100) (hbs : bs.length ≤ 1000)
    (hf : Fm g0 w0 (.slice (some ⟨g, 0, none⟩) n c) bs w) (hm : m = (tx l).length) (hl : (tx l).length ≤ cd) (hr : ReadsInt w .u8 (some ad) (tx l).length (tx l)) (hlt : ad.block < w.heap.size) (had : ad.block ≠ g) :
    Calls Tryz.prog 23 #[.slice (some ⟨g, 0, none⟩) n c, .pointer (some ⟨D, 0, none⟩), .slice (some ad) m cd] w fun e w' => ∃ v', e = .returned v' ∧ Fm g0 w0 v' (bs ++ fF ex (tx l)) w' := by
  subst hm
  refine (fmtF_c g D t cd ex _ bs (tx l) ad _ w (fm_self hf) hr hlt had (hf.oldb hs.dec hs.dne) rfl (tab_ne hf (Array.getElem?_eq_some_iff.1 hs.dec).1 hs.dne) h0 h1 hl (tx_le hs.dig hs.nrm hs.len) hbs).mono ?_
  rintro e w' ⟨v', rfl, h⟩
  exact ⟨v', rfl, fm_on hf h⟩
theorem bl_c {D t g0 cB : Nat} {ex : Int} {neg : Bool} {A : Option Addr} {l : List Int} {w0 w : World} (hs : Src0 D t g0 cB ex neg A l w0) {v : Value} {bs : List Int} (hf : Fm g0 w0 v bs w) :
    Calls Tryz.prog 24 #[.pointer (some ⟨D, 3, none⟩)] w fun e w' => e = .returned (.int .i64 (bitL l : Nat)) ∧ w = w' :=
  intBitLen D 3 t _ false A cB l (by have := hs.len; omega) hs.dig w (hf.digW hs.reads hs.apart) (hf.oldb hs.dec hs.dne) ⟨rfl, rfl⟩
noncomputable def fG (f : Int) (ex : Int) (l : List Int) : List Int :=
  if ex ≤ 0 ∧ -6 ≤ ex + (((tx l).length : Int) + (if bitL l = 0 ∧ ex < 0 then -ex else 0) - 1) then fF ex (tx l) else fE f ex (tx l)

set_option maxRecDepth 100000 in
set_option maxHeartbeats 8000000 in
theorem dapp_ep (D t g0 cB : Nat) (ex : Int) (A : Option Addr) (l : List Int) (v : Value) (bs : List Int) (w : World) (hf : Fm g0 w v bs w) (hs : Src0 D t g0 cB ex false A l w) (h0 : -100 ≤ ex) (h1 : ex ≤ 100) (hbs : bs.length ≤ 900) :
    Calls Tryz.prog 14 #[.pointer (some ⟨D, 0, none⟩), v, .int .u8 101] w fun e w' => ∃ v', e = .returned v' ∧ Fm g0 w v' (bs ++ (fE 101 ex (tx l))) w' := by
  obtain ⟨i0, hi, hz0, hz1, hz2⟩ := info_parts infoB
  have X0 := blk_cell hs.dec 0
  have X1 := blk_cell hs.dec 1
  simp only [List.getElem?_toArray, List.getElem?_cons_zero, List.getElem?_cons_succ] at X0 X1
  obtain ⟨g, c, rfl⟩ := hf.sh
  obtain ⟨n0, hn0⟩ : ∃ n0, n0 = bs.length := ⟨_, rfl⟩
  rw [← hn0] at hf ⊢
  have HF0 := Lib.hid hf
  have HL0 := Lib.hid hbs
  have HS := Lib.hid hs
  have HE := Lib.hid (⟨h0, h1⟩ : -100 ≤ ex ∧ ex ≤ 100)
  clear hf hbs hn0 hs
  go_enter Tryz.func14, Tryz.ntmps14
  have HL1 : Hid (bs.length ≤ 1000) := Lib.hid (by have := HL0.out; omega)
  clear HL0
  go_wp2_with fail
  have HBG := Lib.hid (dig_c HS.out HF0.out)
  clear HF0 X0 X1
  go_region_law (go_simp; go_wp2_with (go_at_call 21; refine HBG.out.mono ?_; rintro e w3 ⟨ad, cd, rfl, q1, q2, q3, q4, q5⟩; have Q1 := Lib.hid q1; have Q2 := Lib.hid q2; have Q3 := Lib.hid q3; have Q4 := Lib.hid q4; have Q5 := Lib.hid q5; clear q1 q2 q3 q4 q5 HBG))
  obtain ⟨m, hm⟩ : ∃ m, m = (tx l).length := ⟨_, rfl⟩
  have HM := Lib.hid hm
  rw [← hm]
  clear hm
  go_wp2_with (go_at_call 22; refine (fe_c HS.out HE.out.1 HE.out.2 HL1.out Q5.out HM.out Q1.out Q2.out Q3.out Q4.out _).mono ?_; rintro e w9 ⟨v9, rfl, hf9⟩)
  have HF9 : Hid (Fm g0 w v9 (bs ++ (fE 101 ex (tx l))) w9) := Lib.hid (by simpa [List.append_assoc] using hf9)
  clear hf9
  go_wp2_with fail
  go_ret
  exact ⟨_, rfl, HF9.out⟩

set_option maxRecDepth 100000 in
set_option maxHeartbeats 8000000 in
theorem dapp_Ep (D t g0 cB : Nat) (ex : Int) (A : Option Addr) (l : List Int) (v : Value) (bs : List Int) (w : World) (hf : Fm g0 w v bs w) (hs : Src0 D t g0 cB ex false A l w) (h0 : -100 ≤ ex) (h1 : ex ≤ 100) (hbs : bs.length ≤ 900) :
    Calls Tryz.prog 14 #[.pointer (some ⟨D, 0, none⟩), v, .int .u8 69] w fun e w' => ∃ v', e = .returned v' ∧ Fm g0 w v' (bs ++ (fE 69 ex (tx l))) w' := by
  obtain ⟨i0, hi, hz0, hz1, hz2⟩ := info_parts infoB
  have X0 := blk_cell hs.dec 0
  have X1 := blk_cell hs.dec 1
  simp only [List.getElem?_toArray, List.getElem?_cons_zero, List.getElem?_cons_succ] at X0 X1
  obtain ⟨g, c, rfl⟩ := hf.sh
  obtain ⟨n0, hn0⟩ : ∃ n0, n0 = bs.length := ⟨_, rfl⟩
  rw [← hn0] at hf ⊢
  have HF0 := Lib.hid hf
  have HL0 := Lib.hid hbs
  have HS := Lib.hid hs
  have HE := Lib.hid (⟨h0, h1⟩ : -100 ≤ ex ∧ ex ≤ 100)
  clear hf hbs hn0 hs
  go_enter Tryz.func14, Tryz.ntmps14
  have HL1 : Hid (bs.length ≤ 1000) := Lib.hid (by have := HL0.out; omega)
  clear HL0
  go_wp2_with fail
  have HBG := Lib.hid (dig_c HS.out HF0.out)
  clear HF0 X0 X1
  go_region_law (go_simp; go_wp2_with (go_at_call 21; refine HBG.out.mono ?_; rintro e w3 ⟨ad, cd, rfl, q1, q2, q3, q4, q5⟩; have Q1 := Lib.hid q1; have Q2 := Lib.hid q2; have Q3 := Lib.hid q3; have Q4 := Lib.hid q4; have Q5 := Lib.hid q5; clear q1 q2 q3 q4 q5 HBG))
  obtain ⟨m, hm⟩ : ∃ m, m = (tx l).length := ⟨_, rfl⟩
  have HM := Lib.hid hm
  rw [← hm]
  clear hm
  go_wp2_with (go_at_call 22; refine (fe_c HS.out HE.out.1 HE.out.2 HL1.out Q5.out HM.out Q1.out Q2.out Q3.out Q4.out _).mono ?_; rintro e w9 ⟨v9, rfl, hf9⟩)
  have HF9 : Hid (Fm g0 w v9 (bs ++ (fE 69 ex (tx l))) w9) := Lib.hid (by simpa [List.append_assoc] using hf9)
  clear hf9
  go_wp2_with fail
  go_ret
  exact ⟨_, rfl, HF9.out⟩

set_option maxRecDepth 100000 in
set_option maxHeartbeats 8000000 in
theorem dapp_fp (D t g0 cB : Nat) (ex : Int) (A : Option Addr) (l : List Int) (v : Value) (bs : List Int) (w : World) (hf : Fm g0 w v bs w) (hs : Src0 D t g0 cB ex false A l w) (h0 : -100 ≤ ex) (h1 : ex ≤ 100) (hbs : bs.length ≤ 900) :
    Calls Tryz.prog 14 #[.pointer (some ⟨D, 0, none⟩), v, .int .u8 102] w fun e w' => ∃ v', e = .returned v' ∧ Fm g0 w v' (bs ++ (fF ex (tx l))) w' := by
  obtain ⟨i0, hi, hz0, hz1, hz2⟩ := info_parts infoB
  have X0 := blk_cell hs.dec 0
  have X1 := blk_cell hs.dec 1
  simp only [List.getElem?_toArray, List.getElem?_cons_zero, List.getElem?_cons_succ] at X0 X1
  obtain ⟨g, c, rfl⟩ := hf.sh
  obtain ⟨n0, hn0⟩ : ∃ n0, n0 = bs.length := ⟨_, rfl⟩
  rw [← hn0] at hf ⊢
  have HF0 := Lib.hid hf
  have HL0 := Lib.hid hbs
  have HS := Lib.hid hs
  have HE := Lib.hid (⟨h0, h1⟩ : -100 ≤ ex ∧ ex ≤ 100)
  clear hf hbs hn0 hs
  go_enter Tryz.func14, Tryz.ntmps14
  have HL1 : Hid (bs.length ≤ 1000) := Lib.hid (by have := HL0.out; omega)
  clear HL0
  go_wp2_with fail
  have HBG := Lib.hid (dig_c HS.out HF0.out)
  clear HF0 X0 X1
  go_region_law (go_simp; go_wp2_with (go_at_call 21; refine HBG.out.mono ?_; rintro e w3 ⟨ad, cd, rfl, q1, q2, q3, q4, q5⟩; have Q1 := Lib.hid q1; have Q2 := Lib.hid q2; have Q3 := Lib.hid q3; have Q4 := Lib.hid q4; have Q5 := Lib.hid q5; clear q1 q2 q3 q4 q5 HBG))
  obtain ⟨m, hm⟩ : ∃ m, m = (tx l).length := ⟨_, rfl⟩
  have HM := Lib.hid hm
  rw [← hm]
  clear hm
  go_wp2_with (go_at_call 23; refine (ff_c HS.out HE.out.1 HE.out.2 HL1.out Q5.out HM.out Q1.out Q2.out Q3.out Q4.out).mono ?_; rintro e w9 ⟨v9, rfl, hf9⟩)
  have HF9 : Hid (Fm g0 w v9 (bs ++ (fF ex (tx l))) w9) := Lib.hid (by simpa [List.append_assoc] using hf9)
  clear hf9
  go_wp2_with fail
  go_ret
  exact ⟨_, rfl, HF9.out⟩

set_option maxRecDepth 100000 in
set_option maxHeartbeats 8000000 in
theorem dapp_gp (D t g0 cB : Nat) (ex : Int) (A : Option Addr) (l : List Int) (v : Value) (bs : List Int) (w : World) (hf : Fm g0 w v bs w) (hs : Src0 D t g0 cB ex false A l w) (h0 : -100 ≤ ex) (h1 : ex ≤ 100) (hbs : bs.length ≤ 900) :
    Calls Tryz.prog 14 #[.pointer (some ⟨D, 0, none⟩), v, .int .u8 103] w fun e w' => ∃ v', e = .returned v' ∧ Fm g0 w v' (bs ++ (fG 101 ex l)) w' := by
  obtain ⟨i0, hi, hz0, hz1, hz2⟩ := info_parts infoB
  have X0 := blk_cell hs.dec 0
  have X1 := blk_cell hs.dec 1
  simp only [List.getElem?_toArray, List.getElem?_cons_zero, List.getElem?_cons_succ] at X0 X1
  obtain ⟨g, c, rfl⟩ := hf.sh
  obtain ⟨n0, hn0⟩ : ∃ n0, n0 = bs.length := ⟨_, rfl⟩
  rw [← hn0] at hf ⊢
  have HF0 := Lib.hid hf
  have HL0 := Lib.hid hbs
  have HS := Lib.hid hs
  have HE := Lib.hid (⟨h0, h1⟩ : -100 ≤ ex ∧ ex ≤ 100)
  clear hf hbs hn0 hs
  go_enter Tryz.func14, Tryz.ntmps14
  have HL1 : Hid (bs.length ≤ 1000) := Lib.hid (by have := HL0.out; omega)
  clear HL0
  go_wp2_with fail
  have HBG := Lib.hid (dig_c HS.out HF0.out)
  clear HF0 X0 X1
  go_region_law (go_simp; go_wp2_with (go_at_call 21; refine HBG.out.mono ?_; rintro e w3 ⟨ad, cd, rfl, q1, q2, q3, q4, q5⟩; have Q1 := Lib.hid q1; have Q2 := Lib.hid q2; have Q3 := Lib.hid q3; have Q4 := Lib.hid q4; have Q5 := Lib.hid q5; clear q1 q2 q3 q4 q5 HBG))
  obtain ⟨m, hm⟩ : ∃ m, m = (tx l).length := ⟨_, rfl⟩
  have HM := Lib.hid hm
  rw [← hm]
  clear hm
  have X2 : w3.cell? ⟨D, 2, none⟩ = some (.int .i32 ex) := blk_cell (Q5.out.oldb HS.out.dec HS.out.dne) 2
  have hm200 : m ≤ 200 := by rw [HM.out]; exact tx_le HS.out.dig HS.out.nrm HS.out.len
  have hm1 : 1 ≤ m := by rw [HM.out]; exact tx_pos HS.out.dig HS.out.nrm HS.out.len
  have e1 : (-2000 : Int) ≤ ex := by omega
  by_cases hc : bitL l = 0 ∧ ex < 0
  · obtain ⟨hz, hx⟩ := hc
    have hzi : ((bitL l : Nat) : Int) = 0 := by omega
    have hx2 : ex ≤ 0 := by omega
    have h6 : -6 ≤ ex + ((m : Int) + -ex - 1) := by omega
    have EG : Hid (fG 101 ex l = fF ex (tx l)) := Lib.hid (by unfold fG; rw [if_pos (show bitL l = 0 ∧ ex < 0 from ⟨hz, hx⟩), if_pos ⟨hx2, by rw [← HM.out]; omega⟩])
    go_wp2_with (first | (go_at_call 24; refine (bl_c HS.out Q5.out).mono ?_; rintro e w4 ⟨rfl, rfl⟩) | (go_at_call 23; refine (ff_c HS.out HE.out.1 HE.out.2 HL1.out Q5.out HM.out Q1.out Q2.out Q3.out Q4.out).mono ?_; rintro e w9 ⟨v9, rfl, hf9⟩))
    have HF9 : Hid (Fm g0 w v9 (bs ++ (fG 101 ex l)) w9) := Lib.hid (by rw [EG.out]; simpa [List.append_assoc] using hf9)
    clear hf9
    go_wp2_with fail
    go_ret
    exact ⟨_, rfl, HF9.out⟩
  · have EI : Hid ((if bitL l = 0 ∧ ex < 0 then -ex else 0) = 0) := Lib.hid (if_neg hc)
    by_cases h6 : ex ≤ 0 ∧ -6 ≤ ex + ((m : Int) - 1)
    · have EG : Hid (fG 101 ex l = fF ex (tx l)) := Lib.hid (by unfold fG; rw [EI.out, if_pos ⟨h6.1, by rw [← HM.out]; omega⟩])
      obtain ⟨hx2, h6⟩ := h6
      by_cases hz : bitL l = 0
      · have hzi : ((bitL l : Nat) : Int) = 0 := by omega
        have hx : ¬ ex < 0 := fun h => hc ⟨hz, h⟩
        clear hc
        go_wp2_with (first | (go_at_call 24; refine (bl_c HS.out Q5.out).mono ?_; rintro e w4 ⟨rfl, rfl⟩) | (go_at_call 23; refine (ff_c HS.out HE.out.1 HE.out.2 HL1.out Q5.out HM.out Q1.out Q2.out Q3.out Q4.out).mono ?_; rintro e w9 ⟨v9, rfl, hf9⟩))
        have HF9 : Hid (Fm g0 w v9 (bs ++ (fG 101 ex l)) w9) := Lib.hid (by rw [EG.out]; simpa [List.append_assoc] using hf9)
        clear hf9
        go_wp2_with fail
        go_ret
        exact ⟨_, rfl, HF9.out⟩
      · have hzi : ¬ ((bitL l : Nat) : Int) = 0 := by omega
        clear hc
        go_wp2_with (first | (go_at_call 24; refine (bl_c HS.out Q5.out).mono ?_; rintro e w4 ⟨rfl, rfl⟩) | (go_at_call 23; refine (ff_c HS.out HE.out.1 HE.out.2 HL1.out Q5.out HM.out Q1.out Q2.out Q3.out Q4.out).mono ?_; rintro e w9 ⟨v9, rfl, hf9⟩))
        have HF9 : Hid (Fm g0 w v9 (bs ++ (fG 101 ex l)) w9) := Lib.hid (by rw [EG.out]; simpa [List.append_assoc] using hf9)
        clear hf9
        go_wp2_with fail
        go_ret
        exact ⟨_, rfl, HF9.out⟩
    · have EG : Hid (fG 101 ex l = fE 101 ex (tx l)) := Lib.hid (by unfold fG; rw [EI.out, if_neg (fun h => h6 ⟨h.1, by have := h.2; rw [← HM.out] at this; omega⟩)])
      by_cases hx2 : ex ≤ 0
      · have h7 : ¬ (-6 ≤ ex + ((m : Int) - 1)) := fun h => h6 ⟨hx2, h⟩
        by_cases hz : bitL l = 0
        · have hzi : ((bitL l : Nat) : Int) = 0 := by omega
          have hx : ¬ ex < 0 := fun h => hc ⟨hz, h⟩
          exfalso
          omega
        · have hzi : ¬ ((bitL l : Nat) : Int) = 0 := by omega
          clear hc h6
          go_wp2_with (first | (go_at_call 24; refine (bl_c HS.out Q5.out).mono ?_; rintro e w4 ⟨rfl, rfl⟩) | (go_at_call 22; refine (fe_c HS.out HE.out.1 HE.out.2 HL1.out Q5.out HM.out Q1.out Q2.out Q3.out Q4.out _).mono ?_; rintro e w9 ⟨v9, rfl, hf9⟩))
          have HF9 : Hid (Fm g0 w v9 (bs ++ (fG 101 ex l)) w9) := Lib.hid (by rw [EG.out]; simpa [List.append_assoc] using hf9)
          clear hf9
          go_wp2_with fail
          go_ret
          exact ⟨_, rfl, HF9.out⟩
      · by_cases hz : bitL l = 0
        · have hzi : ((bitL l : Nat) : Int) = 0 := by omega
          have hx : ¬ ex < 0 := fun h => hc ⟨hz, h⟩
          clear hc h6
          go_wp2_with (first | (go_at_call 24; refine (bl_c HS.out Q5.out).mono ?_; rintro e w4 ⟨rfl, rfl⟩) | (go_at_call 22; refine (fe_c HS.out HE.out.1 HE.out.2 HL1.out Q5.out HM.out Q1.out Q2.out Q3.out Q4.out _).mono ?_; rintro e w9 ⟨v9, rfl, hf9⟩))
          have HF9 : Hid (Fm g0 w v9 (bs ++ (fG 101 ex l)) w9) := Lib.hid (by rw [EG.out]; simpa [List.append_assoc] using hf9)
          clear hf9
          go_wp2_with fail
          go_ret
          exact ⟨_, rfl, HF9.out⟩
        · have hzi : ¬ ((bitL l : Nat) : Int) = 0 := by omega
          clear hc h6
          go_wp2_with (first | (go_at_call 24; refine (bl_c HS.out Q5.out).mono ?_; rintro e w4 ⟨rfl, rfl⟩) | (go_at_call 22; refine (fe_c HS.out HE.out.1 HE.out.2 HL1.out Q5.out HM.out Q1.out Q2.out Q3.out Q4.out _).mono ?_; rintro e w9 ⟨v9, rfl, hf9⟩))
          have HF9 : Hid (Fm g0 w v9 (bs ++ (fG 101 ex l)) w9) := Lib.hid (by rw [EG.out]; simpa [List.append_assoc] using hf9)
          clear hf9
          go_wp2_with fail
          go_ret
          exact ⟨_, rfl, HF9.out⟩

set_option maxRecDepth 100000 in
set_option maxHeartbeats 8000000 in
theorem dapp_Gp (D t g0 cB : Nat) (ex : Int) (A : Option Addr) (l : List Int) (v : Value) (bs : List Int) (w : World) (hf : Fm g0 w v bs w) (hs : Src0 D t g0 cB ex false A l w) (h0 : -100 ≤ ex) (h1 : ex ≤ 100) (hbs : bs.length ≤ 900) :
    Calls Tryz.prog 14 #[.pointer (some ⟨D, 0, none⟩), v, .int .u8 71] w fun e w' => ∃ v', e = .returned v' ∧ Fm g0 w v' (bs ++ (fG 69 ex l)) w' := by
  obtain ⟨i0, hi, hz0, hz1, hz2⟩ := info_parts infoB
  have X0 := blk_cell hs.dec 0
  have X1 := blk_cell hs.dec 1
  simp only [List.getElem?_toArray, List.getElem?_cons_zero, List.getElem?_cons_succ] at X0 X1
  obtain ⟨g, c, rfl⟩ := hf.sh
  obtain ⟨n0, hn0⟩ : ∃ n0, n0 = bs.length := ⟨_, rfl⟩
  rw [← hn0] at hf ⊢
  have HF0 := Lib.hid hf
  have HL0 := Lib.hid hbs
  have HS := Lib.hid hs
  have HE := Lib.hid (⟨h0, h1⟩ : -100 ≤ ex ∧ ex ≤ 100)
  clear hf hbs hn0 hs
  go_enter Tryz.func14, Tryz.ntmps14
  have HL1 : Hid (bs.length ≤ 1000) := Lib.hid (by have := HL0.out; omega)
  clear HL0
  go_wp2_with fail
  have HBG := Lib.hid (dig_c HS.out HF0.out)
  clear HF0 X0 X1
  go_region_law (go_simp; go_wp2_with (go_at_call 21; refine HBG.out.mono ?_; rintro e w3 ⟨ad, cd, rfl, q1, q2, q3, q4, q5⟩; have Q1 := Lib.hid q1; have Q2 := Lib.hid q2; have Q3 := Lib.hid q3; have Q4 := Lib.hid q4; have Q5 := Lib.hid q5; clear q1 q2 q3 q4 q5 HBG))
  obtain ⟨m, hm⟩ : ∃ m, m = (tx l).length := ⟨_, rfl⟩
  have HM := Lib.hid hm
  rw [← hm]
  clear hm
  have X2 : w3.cell? ⟨D, 2, none⟩ = some (.int .i32 ex) := blk_cell (Q5.out.oldb HS.out.dec HS.out.dne) 2
  have hm200 : m ≤ 200 := by rw [HM.out]; exact tx_le HS.out.dig HS.out.nrm HS.out.len
  have hm1 : 1 ≤ m := by rw [HM.out]; exact tx_pos HS.out.dig HS.out.nrm HS.out.len
  have e1 : (-2000 : Int) ≤ ex := by omega
  by_cases hc : bitL l = 0 ∧ ex < 0
  · obtain ⟨hz, hx⟩ := hc
    have hzi : ((bitL l : Nat) : Int) = 0 := by omega
    have hx2 : ex ≤ 0 := by omega
    have h6 : -6 ≤ ex + ((m : Int) + -ex - 1) := by omega
    have EG : Hid (fG 69 ex l = fF ex (tx l)) := Lib.hid (by unfold fG; rw [if_pos (show bitL l = 0 ∧ ex < 0 from ⟨hz, hx⟩), if_pos ⟨hx2, by rw [← HM.out]; omega⟩])
    go_wp2_with (first | (go_at_call 24; refine (bl_c HS.out Q5.out).mono ?_; rintro e w4 ⟨rfl, rfl⟩) | (go_at_call 23; refine (ff_c HS.out HE.out.1 HE.out.2 HL1.out Q5.out HM.out Q1.out Q2.out Q3.out Q4.out).mono ?_; rintro e w9 ⟨v9, rfl, hf9⟩))
    have HF9 : Hid (Fm g0 w v9 (bs ++ (fG 69 ex l)) w9) := Lib.hid (by rw [EG.out]; simpa [List.append_assoc] using hf9)
    clear hf9
    go_wp2_with fail
    go_ret
    exact ⟨_, rfl, HF9.out⟩
  · have EI : Hid ((if bitL l = 0 ∧ ex < 0 then -ex else 0) = 0) := Lib.hid (if_neg hc)
    by_cases h6 : ex ≤ 0 ∧ -6 ≤ ex + ((m : Int) - 1)
    · have EG : Hid (fG 69 ex l = fF ex (tx l)) := Lib.hid (by unfold fG; rw [EI.out, if_pos ⟨h6.1, by rw [← HM.out]; omega⟩])
      obtain ⟨hx2, h6⟩ := h6
      by_cases hz : bitL l = 0
      · have hzi : ((bitL l : Nat) : Int) = 0 := by omega
        have hx : ¬ ex < 0 := fun h => hc ⟨hz, h⟩
        clear hc
        go_wp2_with (first | (go_at_call 24; refine (bl_c HS.out Q5.out).mono ?_; rintro e w4 ⟨rfl, rfl⟩) | (go_at_call 23; refine (ff_c HS.out HE.out.1 HE.out.2 HL1.out Q5.out HM.out Q1.out Q2.out Q3.out Q4.out).mono ?_; rintro e w9 ⟨v9, rfl, hf9⟩))
        have HF9 : Hid (Fm g0 w v9 (bs ++ (fG 69 ex l)) w9) := Lib.hid (by rw [EG.out]; simpa [List.append_assoc] using hf9)
        clear hf9
        go_wp2_with fail
        go_ret
        exact ⟨_, rfl, HF9.out⟩
      · have hzi : ¬ ((bitL l : Nat) : Int) = 0 := by omega
        clear hc
        go_wp2_with (first | (go_at_call 24; refine (bl_c HS.out Q5.out).mono ?_; rintro e w4 ⟨rfl, rfl⟩) | (go_at_call 23; refine (ff_c HS.out HE.out.1 HE.out.2 HL1.out Q5.out HM.out Q1.out Q2.out Q3.out Q4.out).mono ?_; rintro e w9 ⟨v9, rfl, hf9⟩))
        have HF9 : Hid (Fm g0 w v9 (bs ++ (fG 69 ex l)) w9) := Lib.hid (by rw [EG.out]; simpa [List.append_assoc] using hf9)
        clear hf9
        go_wp2_with fail
        go_ret
        exact ⟨_, rfl, HF9.out⟩
    · have EG : Hid (fG 69 ex l = fE 69 ex (tx l)) := Lib.hid (by unfold fG; rw [EI.out, if_neg (fun h => h6 ⟨h.1, by have := h.2; rw [← HM.out] at this; omega⟩)])
      by_cases hx2 : ex ≤ 0
      · have h7 : ¬ (-6 ≤ ex + ((m : Int) - 1)) := fun h => h6 ⟨hx2, h⟩
        by_cases hz : bitL l = 0
        · have hzi : ((bitL l : Nat) : Int) = 0 := by omega
          have hx : ¬ ex < 0 := fun h => hc ⟨hz, h⟩
          exfalso
          omega
        · have hzi : ¬ ((bitL l : Nat) : Int) = 0 := by omega
          clear hc h6
          go_wp2_with (first | (go_at_call 24; refine (bl_c HS.out Q5.out).mono ?_; rintro e w4 ⟨rfl, rfl⟩) | (go_at_call 22; refine (fe_c HS.out HE.out.1 HE.out.2 HL1.out Q5.out HM.out Q1.out Q2.out Q3.out Q4.out _).mono ?_; rintro e w9 ⟨v9, rfl, hf9⟩))
          have HF9 : Hid (Fm g0 w v9 (bs ++ (fG 69 ex l)) w9) := Lib.hid (by rw [EG.out]; simpa [List.append_assoc] using hf9)
          clear hf9
          go_wp2_with fail
          go_ret
          exact ⟨_, rfl, HF9.out⟩
      · by_cases hz : bitL l = 0
        · have hzi : ((bitL l : Nat) : Int) = 0 := by omega
          have hx : ¬ ex < 0 := fun h => hc ⟨hz, h⟩
          clear hc h6
          go_wp2_with (first | (go_at_call 24; refine (bl_c HS.out Q5.out).mono ?_; rintro e w4 ⟨rfl, rfl⟩) | (go_at_call 22; refine (fe_c HS.out HE.out.1 HE.out.2 HL1.out Q5.out HM.out Q1.out Q2.out Q3.out Q4.out _).mono ?_; rintro e w9 ⟨v9, rfl, hf9⟩))
          have HF9 : Hid (Fm g0 w v9 (bs ++ (fG 69 ex l)) w9) := Lib.hid (by rw [EG.out]; simpa [List.append_assoc] using hf9)
          clear hf9
          go_wp2_with fail
          go_ret
          exact ⟨_, rfl, HF9.out⟩
        · have hzi : ¬ ((bitL l : Nat) : Int) = 0 := by omega
          clear hc h6
          go_wp2_with (first | (go_at_call 24; refine (bl_c HS.out Q5.out).mono ?_; rintro e w4 ⟨rfl, rfl⟩) | (go_at_call 22; refine (fe_c HS.out HE.out.1 HE.out.2 HL1.out Q5.out HM.out Q1.out Q2.out Q3.out Q4.out _).mono ?_; rintro e w9 ⟨v9, rfl, hf9⟩))
          have HF9 : Hid (Fm g0 w v9 (bs ++ (fG 69 ex l)) w9) := Lib.hid (by rw [EG.out]; simpa [List.append_assoc] using hf9)
          clear hf9
          go_wp2_with fail
          go_ret
          exact ⟨_, rfl, HF9.out⟩

set_option maxRecDepth 100000 in
set_option maxHeartbeats 8000000 in
theorem dapp_en (D t g0 cB : Nat) (ex : Int) (A : Option Addr) (l : List Int) (v : Value) (bs : List Int) (w : World) (hf : Fm g0 w v bs w) (hs : Src0 D t g0 cB ex true A l w) (h0 : -100 ≤ ex) (h1 : ex ≤ 100) (hbs : bs.length ≤ 900) :
    Calls Tryz.prog 14 #[.pointer (some ⟨D, 0, none⟩), v, .int .u8 101] w fun e w' => ∃ v', e = .returned v' ∧ Fm g0 w v' (bs ++ ([45] ++ fE 101 ex (tx l))) w' := by
  obtain ⟨i0, hi, hz0, hz1, hz2⟩ := info_parts infoB
  have X0 := blk_cell hs.dec 0
  have X1 := blk_cell hs.dec 1
  simp only [List.getElem?_toArray, List.getElem?_cons_zero, List.getElem?_cons_succ] at X0 X1
  obtain ⟨g, c, rfl⟩ := hf.sh
  obtain ⟨n0, hn0⟩ : ∃ n0, n0 = bs.length := ⟨_, rfl⟩
  rw [← hn0] at hf ⊢
  have HF0 := Lib.hid hf
  have HL0 := Lib.hid hbs
  have HS := Lib.hid hs
  have HE := Lib.hid (⟨h0, h1⟩ : -100 ≤ ex ∧ ex ≤ 100)
  clear hf hbs hn0 hs
  go_enter Tryz.func14, Tryz.ntmps14
  go_wp2_with (at_builtin; refine wpList_append_fm (HF0.out.alloc _) [45] rfl _ _ 22 22 rfl 5 i0 Tryz.underlying22 hi hz0 hz1 hz2 rfl _ rfl (src_one Tryz.underlying22 _ _) (by have := HL0.out; simp only [List.length_cons, List.length_nil]; omega) ?_)
  intro v1 w1 hf1
  have HF1 := Lib.hid hf1
  have HL1 : Hid ((bs ++ [45]).length ≤ 1000) := Lib.hid (by have := HL0.out; simp only [List.length_append, List.length_cons, List.length_nil] at this ⊢; omega)
  have Y0 := blk_cell (hf1.oldb HS.out.dec HS.out.dne) 0
  simp only [List.getElem?_toArray, List.getElem?_cons_zero] at Y0
  obtain ⟨g1, c1, rfl⟩ := hf1.sh
  clear hf1 HF0 HL0 X0 X1
  obtain ⟨n1, hn1⟩ : ∃ n1, n1 = (bs ++ [45]).length := ⟨_, rfl⟩
  rw [← hn1] at HF1 ⊢
  clear hn1
  go_wp2_with fail
  have HBG := Lib.hid (dig_c HS.out HF1.out)
  clear HF1 Y0
  go_region_law (go_simp; go_wp2_with (go_at_call 21; refine HBG.out.mono ?_; rintro e w3 ⟨ad, cd, rfl, q1, q2, q3, q4, q5⟩; have Q1 := Lib.hid q1; have Q2 := Lib.hid q2; have Q3 := Lib.hid q3; have Q4 := Lib.hid q4; have Q5 := Lib.hid q5; clear q1 q2 q3 q4 q5 HBG))
  obtain ⟨m, hm⟩ : ∃ m, m = (tx l).length := ⟨_, rfl⟩
  have HM := Lib.hid hm
  rw [← hm]
  clear hm
  go_wp2_with (go_at_call 22; refine (fe_c HS.out HE.out.1 HE.out.2 HL1.out Q5.out HM.out Q1.out Q2.out Q3.out Q4.out _).mono ?_; rintro e w9 ⟨v9, rfl, hf9⟩)
  have HF9 : Hid (Fm g0 w v9 (bs ++ ([45] ++ fE 101 ex (tx l))) w9) := Lib.hid (by simpa [List.append_assoc] using hf9)
  clear hf9
  go_wp2_with fail
  go_ret
  exact ⟨_, rfl, HF9.out⟩

set_option maxRecDepth 100000 in
set_option maxHeartbeats 8000000 in
theorem dapp_En (D t g0 cB : Nat) (ex : Int) (A : Option Addr) (l : List Int) (v : Value) (bs : List Int) (w : World) (hf : Fm g0 w v bs w) (hs : Src0 D t g0 cB ex true A l w) (h0 : -100 ≤ ex) (h1 : ex ≤ 100) (hbs : bs.length ≤ 900) :
    Calls Tryz.prog 14 #[.pointer (some ⟨D, 0, none⟩), v, .int .u8 69] w fun e w' => ∃ v', e = .returned v' ∧ Fm g0 w v' (bs ++ ([45] ++ fE 69 ex (tx l))) w' := by
  obtain ⟨i0, hi, hz0, hz1, hz2⟩ := info_parts infoB
  have X0 := blk_cell hs.dec 0
  have X1 := blk_cell hs.dec 1
  simp only [List.getElem?_toArray, List.getElem?_cons_zero, List.getElem?_cons_succ] at X0 X1
  obtain ⟨g, c, rfl⟩ := hf.sh
  obtain ⟨n0, hn0⟩ : ∃ n0, n0 = bs.length := ⟨_, rfl⟩
  rw [← hn0] at hf ⊢
  have HF0 := Lib.hid hf
  have HL0 := Lib.hid hbs
  have HS := Lib.hid hs
  have HE := Lib.hid (⟨h0, h1⟩ : -100 ≤ ex ∧ ex ≤ 100)
  clear hf hbs hn0 hs
  go_enter Tryz.func14, Tryz.ntmps14
  go_wp2_with (at_builtin; refine wpList_append_fm (HF0.out.alloc _) [45] rfl _ _ 22 22 rfl 5 i0 Tryz.underlying22 hi hz0 hz1 hz2 rfl _ rfl (src_one Tryz.underlying22 _ _) (by have := HL0.out; simp only [List.length_cons, List.length_nil]; omega) ?_)
  intro v1 w1 hf1
  have HF1 := Lib.hid hf1
  have HL1 : Hid ((bs ++ [45]).length ≤ 1000) := Lib.hid (by have := HL0.out; simp only [List.length_append, List.length_cons, List.length_nil] at this ⊢; omega)
  have Y0 := blk_cell (hf1.oldb HS.out.dec HS.out.dne) 0
  simp only [List.getElem?_toArray, List.getElem?_cons_zero] at Y0
  obtain ⟨g1, c1, rfl⟩ := hf1.sh
  clear hf1 HF0 HL0 X0 X1
  obtain ⟨n1, hn1⟩ : ∃ n1, n1 = (bs ++ [45]).length := ⟨_, rfl⟩
  rw [← hn1] at HF1 ⊢
  clear hn1
  go_wp2_with fail
  have HBG := Lib.hid (dig_c HS.out HF1.out)
  clear HF1 Y0
  go_region_law (go_simp; go_wp2_with (go_at_call 21; refine HBG.out.mono ?_; rintro e w3 ⟨ad, cd, rfl, q1, q2, q3, q4, q5⟩; have Q1 := Lib.hid q1; have Q2 := Lib.hid q2; have Q3 := Lib.hid q3; have Q4 := Lib.hid q4; have Q5 := Lib.hid q5; clear q1 q2 q3 q4 q5 HBG))
  obtain ⟨m, hm⟩ : ∃ m, m = (tx l).length := ⟨_, rfl⟩
  have HM := Lib.hid hm
  rw [← hm]
  clear hm
  go_wp2_with (go_at_call 22; refine (fe_c HS.out HE.out.1 HE.out.2 HL1.out Q5.out HM.out Q1.out Q2.out Q3.out Q4.out _).mono ?_; rintro e w9 ⟨v9, rfl, hf9⟩)
  have HF9 : Hid (Fm g0 w v9 (bs ++ ([45] ++ fE 69 ex (tx l))) w9) := Lib.hid (by simpa [List.append_assoc] using hf9)
  clear hf9
  go_wp2_with fail
  go_ret
  exact ⟨_, rfl, HF9.out⟩

set_option maxRecDepth 100000 in
set_option maxHeartbeats 8000000 in
theorem dapp_fn (D t g0 cB : Nat) (ex : Int) (A : Option Addr) (l : List Int) (v : Value) (bs : List Int) (w : World) (hf : Fm g0 w v bs w) (hs : Src0 D t g0 cB ex true A l w) (h0 : -100 ≤ ex) (h1 : ex ≤ 100) (hbs : bs.length ≤ 900) :
    Calls Tryz.prog 14 #[.pointer (some ⟨D, 0, none⟩), v, .int .u8 102] w fun e w' => ∃ v', e = .returned v' ∧ Fm g0 w v' (bs ++ ([45] ++ fF ex (tx l))) w' := by
  obtain ⟨i0, hi, hz0, hz1, hz2⟩ := info_parts infoB
  have X0 := blk_cell hs.dec 0
  have X1 := blk_cell hs.dec 1
  simp only [List.getElem?_toArray, List.getElem?_cons_zero, List.getElem?_cons_succ] at X0 X1
  obtain ⟨g, c, rfl⟩ := hf.sh
  obtain ⟨n0, hn0⟩ : ∃ n0, n0 = bs.length := ⟨_, rfl⟩
  rw [← hn0] at hf ⊢
  have HF0 := Lib.hid hf
  have HL0 := Lib.hid hbs
  have HS := Lib.hid hs
  have HE := Lib.hid (⟨h0, h1⟩ : -100 ≤ ex ∧ ex ≤ 100)
  clear hf hbs hn0 hs
  go_enter Tryz.func14, Tryz.ntmps14
  go_wp2_with (at_builtin; refine wpList_append_fm (HF0.out.alloc _) [45] rfl _ _ 22 22 rfl 5 i0 Tryz.underlying22 hi hz0 hz1 hz2 rfl _ rfl (src_one Tryz.underlying22 _ _) (by have := HL0.out; simp only [List.length_cons, List.length_nil]; omega) ?_)
  intro v1 w1 hf1
  have HF1 := Lib.hid hf1
  have HL1 : Hid ((bs ++ [45]).length ≤ 1000) := Lib.hid (by have := HL0.out; simp only [List.length_append, List.length_cons, List.length_nil] at this ⊢; omega)
  have Y0 := blk_cell (hf1.oldb HS.out.dec HS.out.dne) 0
  simp only [List.getElem?_toArray, List.getElem?_cons_zero] at Y0
  obtain ⟨g1, c1, rfl⟩ := hf1.sh
  clear hf1 HF0 HL0 X0 X1
  obtain ⟨n1, hn1⟩ : ∃ n1, n1 = (bs ++ [45]).length := ⟨_, rfl⟩
  rw [← hn1] at HF1 ⊢
  clear hn1
  go_wp2_with fail
  have HBG := Lib.hid (dig_c HS.out HF1.out)
  clear HF1 Y0
  go_region_law (go_simp; go_wp2_with (go_at_call 21; refine HBG.out.mono ?_; rintro e w3 ⟨ad, cd, rfl, q1, q2, q3, q4, q5⟩; have Q1 := Lib.hid q1; have Q2 := Lib.hid q2; have Q3 := Lib.hid q3; have Q4 := Lib.hid q4; have Q5 := Lib.hid q5; clear q1 q2 q3 q4 q5 HBG))
  obtain ⟨m, hm⟩ : ∃ m, m = (tx l).length := ⟨_, rfl⟩
  have HM := Lib.hid hm
  rw [← hm]
  clear hm
  go_wp2_with (go_at_call 23; refine (ff_c HS.out HE.out.1 HE.out.2 HL1.out Q5.out HM.out Q1.out Q2.out Q3.out Q4.out).mono ?_; rintro e w9 ⟨v9, rfl, hf9⟩)
  have HF9 : Hid (Fm g0 w v9 (bs ++ ([45] ++ fF ex (tx l))) w9) := Lib.hid (by simpa [List.append_assoc] using hf9)
  clear hf9
  go_wp2_with fail
  go_ret
  exact ⟨_, rfl, HF9.out⟩

set_option maxRecDepth 100000 in
set_option maxHeartbeats 8000000 in
theorem dapp_gn (D t g0 cB : Nat) (ex : Int) (A : Option Addr) (l : List Int) (v : Value) (bs : List Int) (w : World) (hf : Fm g0 w v bs w) (hs : Src0 D t g0 cB ex true A l w) (h0 : -100 ≤ ex) (h1 : ex ≤ 100) (hbs : bs.length ≤ 900) :
    Calls Tryz.prog 14 #[.pointer (some ⟨D, 0, none⟩), v, .int .u8 103] w fun e w' => ∃ v', e = .returned v' ∧ Fm g0 w v' (bs ++ ([45] ++ fG 101 ex l)) w' := by
  obtain ⟨i0, hi, hz0, hz1, hz2⟩ := info_parts infoB
  have X0 := blk_cell hs.dec 0
  have X1 := blk_cell hs.dec 1
  simp only [List.getElem?_toArray, List.getElem?_cons_zero, List.getElem?_cons_succ] at X0 X1
  obtain ⟨g, c, rfl⟩ := hf.sh
  obtain ⟨n0, hn0⟩ : ∃ n0, n0 = bs.length := ⟨_, rfl⟩
  rw [← hn0] at hf ⊢
  have HF0 := Lib.hid hf
  have HL0 := Lib.hid hbs
  have HS := Lib.hid hs
  have HE := Lib.hid (⟨h0, h1⟩ : -100 ≤ ex ∧ ex ≤ 100)
  clear hf hbs hn0 hs
  go_enter Tryz.func14, Tryz.ntmps14
  go_wp2_with (at_builtin; refine wpList_append_fm (HF0.out.alloc _) [45] rfl _ _ 22 22 rfl 5 i0 Tryz.underlying22 hi hz0 hz1 hz2 rfl _ rfl (src_one Tryz.underlying22 _ _) (by have := HL0.out; simp only [List.length_cons, List.length_nil]; omega) ?_)
  intro v1 w1 hf1
  have HF1 := Lib.hid hf1
  have HL1 : Hid ((bs ++ [45]).length ≤ 1000) := Lib.hid (by have := HL0.out; simp only [List.length_append, List.length_cons, List.length_nil] at this ⊢; omega)
  have Y0 := blk_cell (hf1.oldb HS.out.dec HS.out.dne) 0
  simp only [List.getElem?_toArray, List.getElem?_cons_zero] at Y0
  obtain ⟨g1, c1, rfl⟩ := hf1.sh
  clear hf1 HF0 HL0 X0 X1
  obtain ⟨n1, hn1⟩ : ∃ n1, n1 = (bs ++ [45]).length := ⟨_, rfl⟩
  rw [← hn1] at HF1 ⊢
  clear hn1
  go_wp2_with fail
  have HBG := Lib.hid (dig_c HS.out HF1.out)
  clear HF1 Y0
  go_region_law (go_simp; go_wp2_with (go_at_call 21; refine HBG.out.mono ?_; rintro e w3 ⟨ad, cd, rfl, q1, q2, q3, q4, q5⟩; have Q1 := Lib.hid q1; have Q2 := Lib.hid q2; have Q3 := Lib.hid q3; have Q4 := Lib.hid q4; have Q5 := Lib.hid q5; clear q1 q2 q3 q4 q5 HBG))
  obtain ⟨m, hm⟩ : ∃ m, m = (tx l).length := ⟨_, rfl⟩
  have HM := Lib.hid hm
  rw [← hm]
  clear hm
  have X2 : w3.cell? ⟨D, 2, none⟩ = some (.int .i32 ex) := blk_cell (Q5.out.oldb HS.out.dec HS.out.dne) 2
  have hm200 : m ≤ 200 := by rw [HM.out]; exact tx_le HS.out.dig HS.out.nrm HS.out.len
  have hm1 : 1 ≤ m := by rw [HM.out]; exact tx_pos HS.out.dig HS.out.nrm HS.out.len
  have e1 : (-2000 : Int) ≤ ex := by omega
  by_cases hc : bitL l = 0 ∧ ex < 0
  · obtain ⟨hz, hx⟩ := hc
    have hzi : ((bitL l : Nat) : Int) = 0 := by omega
    have hx2 : ex ≤ 0 := by omega
    have h6 : -6 ≤ ex + ((m : Int) + -ex - 1) := by omega
    have EG : Hid (fG 101 ex l = fF ex (tx l)) := Lib.hid (by unfold fG; rw [if_pos (show bitL l = 0 ∧ ex < 0 from ⟨hz, hx⟩), if_pos ⟨hx2, by rw [← HM.out]; omega⟩])
    go_wp2_with (first | (go_at_call 24; refine (bl_c HS.out Q5.out).mono ?_; rintro e w4 ⟨rfl, rfl⟩) | (go_at_call 23; refine (ff_c HS.out HE.out.1 HE.out.2 HL1.out Q5.out HM.out Q1.out Q2.out Q3.out Q4.out).mono ?_; rintro e w9 ⟨v9, rfl, hf9⟩))
    have HF9 : Hid (Fm g0 w v9 (bs ++ ([45] ++ fG 101 ex l)) w9) := Lib.hid (by rw [EG.out]; simpa [List.append_assoc] using hf9)
    clear hf9
    go_wp2_with fail
    go_ret
    exact ⟨_, rfl, HF9.out⟩
  · have EI : Hid ((if bitL l = 0 ∧ ex < 0 then -ex else 0) = 0) := Lib.hid (if_neg hc)
    by_cases h6 : ex ≤ 0 ∧ -6 ≤ ex + ((m : Int) - 1)
    · have EG : Hid (fG 101 ex l = fF ex (tx l)) := Lib.hid (by unfold fG; rw [EI.out, if_pos ⟨h6.1, by rw [← HM.out]; omega⟩])
      obtain ⟨hx2, h6⟩ := h6
      by_cases hz : bitL l = 0
      · have hzi : ((bitL l : Nat) : Int) = 0 := by omega
        have hx : ¬ ex < 0 := fun h => hc ⟨hz, h⟩
        clear hc
        go_wp2_with (first | (go_at_call 24; refine (bl_c HS.out Q5.out).mono ?_; rintro e w4 ⟨rfl, rfl⟩) | (go_at_call 23; refine (ff_c HS.out HE.out.1 HE.out.2 HL1.out Q5.out HM.out Q1.out Q2.out Q3.out Q4.out).mono ?_; rintro e w9 ⟨v9, rfl, hf9⟩))
        have HF9 : Hid (Fm g0 w v9 (bs ++ ([45] ++ fG 101 ex l)) w9) := Lib.hid (by rw [EG.out]; simpa [List.append_assoc] using hf9)
        clear hf9
        go_wp2_with fail
        go_ret
        exact ⟨_, rfl, HF9.out⟩
      · have hzi : ¬ ((bitL l : Nat) : Int) = 0 := by omega
        clear hc
        go_wp2_with (first | (go_at_call 24; refine (bl_c HS.out Q5.out).mono ?_; rintro e w4 ⟨rfl, rfl⟩) | (go_at_call 23; refine (ff_c HS.out HE.out.1 HE.out.2 HL1.out Q5.out HM.out Q1.out Q2.out Q3.out Q4.out).mono ?_; rintro e w9 ⟨v9, rfl, hf9⟩))
        have HF9 : Hid (Fm g0 w v9 (bs ++ ([45] ++ fG 101 ex l)) w9) := Lib.hid (by rw [EG.out]; simpa [List.append_assoc] using hf9)
        clear hf9
        go_wp2_with fail
        go_ret
        exact ⟨_, rfl, HF9.out⟩
    · have EG : Hid (fG 101 ex l = fE 101 ex (tx l)) := Lib.hid (by unfold fG; rw [EI.out, if_neg (fun h => h6 ⟨h.1, by have := h.2; rw [← HM.out] at this; omega⟩)])
      by_cases hx2 : ex ≤ 0
      · have h7 : ¬ (-6 ≤ ex + ((m : Int) - 1)) := fun h => h6 ⟨hx2, h⟩
        by_cases hz : bitL l = 0
        · have hzi : ((bitL l : Nat) : Int) = 0 := by omega
          have hx : ¬ ex < 0 := fun h => hc ⟨hz, h⟩
          exfalso
          omega
        · have hzi : ¬ ((bitL l : Nat) : Int) = 0 := by omega
          clear hc h6
          go_wp2_with (first | (go_at_call 24; refine (bl_c HS.out Q5.out).mono ?_; rintro e w4 ⟨rfl, rfl⟩) | (go_at_call 22; refine (fe_c HS.out HE.out.1 HE.out.2 HL1.out Q5.out HM.out Q1.out Q2.out Q3.out Q4.out _).mono ?_; rintro e w9 ⟨v9, rfl, hf9⟩))
          have HF9 : Hid (Fm g0 w v9 (bs ++ ([45] ++ fG 101 ex l)) w9) := Lib.hid (by rw [EG.out]; simpa [List.append_assoc] using hf9)
          clear hf9
          go_wp2_with fail
          go_ret
          exact ⟨_, rfl, HF9.out⟩
      · by_cases hz : bitL l = 0
        · have hzi : ((bitL l : Nat) : Int) = 0 := by omega
          have hx : ¬ ex < 0 := fun h => hc ⟨hz, h⟩
          clear hc h6
          go_wp2_with (first | (go_at_call 24; refine (bl_c HS.out Q5.out).mono ?_; rintro e w4 ⟨rfl, rfl⟩) | (go_at_call 22; refine (fe_c HS.out HE.out.1 HE.out.2 HL1.out Q5.out HM.out Q1.out Q2.out Q3.out Q4.out _).mono ?_; rintro e w9 ⟨v9, rfl, hf9⟩))
          have HF9 : Hid (Fm g0 w v9 (bs ++ ([45] ++ fG 101 ex l)) w9) := Lib.hid (by rw [EG.out]; simpa [List.append_assoc] using hf9)
          clear hf9
          go_wp2_with fail
          go_ret
          exact ⟨_, rfl, HF9.out⟩
        · have hzi : ¬ ((bitL l : Nat) : Int) = 0 := by omega
          clear hc h6
          go_wp2_with (first | (go_at_call 24; refine (bl_c HS.out Q5.out).mono ?_; rintro e w4 ⟨rfl, rfl⟩) | (go_at_call 22; refine (fe_c HS.out HE.out.1 HE.out.2 HL1.out Q5.out HM.out Q1.out Q2.out Q3.out Q4.out _).mono ?_; rintro e w9 ⟨v9, rfl, hf9⟩))
          have HF9 : Hid (Fm g0 w v9 (bs ++ ([45] ++ fG 101 ex l)) w9) := Lib.hid (by rw [EG.out]; simpa [List.append_assoc] using hf9)
          clear hf9
          go_wp2_with fail
          go_ret
          exact ⟨_, rfl, HF9.out⟩

set_option maxRecDepth 100000 in
set_option maxHeartbeats 8000000 in
theorem dapp_Gn (D t g0 cB : Nat) (ex : Int) (A : Option Addr) (l : List Int) (v : Value) (bs : List Int) (w : World) (hf : Fm g0 w v bs w) (hs : Src0 D t g0 cB ex true A l w) (h0 : -100 ≤ ex) (h1 : ex ≤ 100) (hbs : bs.length ≤ 900) :
    Calls Tryz.prog 14 #[.pointer (some ⟨D, 0, none⟩), v, .int .u8 71] w fun e w' => ∃ v', e = .returned v' ∧ Fm g0 w v' (bs ++ ([45] ++ fG 69 ex l)) w' := by
  obtain ⟨i0, hi, hz0, hz1, hz2⟩ := info_parts infoB
  have X0 := blk_cell hs.dec 0
  have X1 := blk_cell hs.dec 1
  simp only [List.getElem?_toArray, List.getElem?_cons_zero, List.getElem?_cons_succ] at X0 X1
  obtain ⟨g, c, rfl⟩ := hf.sh
  obtain ⟨n0, hn0⟩ : ∃ n0, n0 = bs.length := ⟨_, rfl⟩
  rw [← hn0] at hf ⊢
  have HF0 := Lib.hid hf
  have HL0 := Lib.hid hbs
  have HS := Lib.hid hs
  have HE := Lib.hid (⟨h0, h1⟩ : -100 ≤ ex ∧ ex ≤ 100)
  clear hf hbs hn0 hs
  go_enter Tryz.func14, Tryz.ntmps14
  go_wp2_with (at_builtin; refine wpList_append_fm (HF0.out.alloc _) [45] rfl _ _ 22 22 rfl 5 i0 Tryz.underlying22 hi hz0 hz1 hz2 rfl _ rfl (src_one Tryz.underlying22 _ _) (by have := HL0.out; simp only [List.length_cons, List.length_nil]; omega) ?_)
  intro v1 w1 hf1
  have HF1 := Lib.hid hf1
  have HL1 : Hid ((bs ++ [45]).length ≤ 1000) := Lib.hid (by have := HL0.out; simp only [List.length_append, List.length_cons, List.length_nil] at this ⊢; omega)
  have Y0 := blk_cell (hf1.oldb HS.out.dec HS.out.dne) 0
  simp only [List.getElem?_toArray, List.getElem?_cons_zero] at Y0
  obtain ⟨g1, c1, rfl⟩ := hf1.sh
  clear hf1 HF0 HL0 X0 X1
  obtain ⟨n1, hn1⟩ : ∃ n1, n1 = (bs ++ [45]).length := ⟨_, rfl⟩
  rw [← hn1] at HF1 ⊢
  clear hn1
  go_wp2_with fail
  have HBG := Lib.hid (dig_c HS.out HF1.out)
  clear HF1 Y0
  go_region_law (go_simp; go_wp2_with (go_at_call 21; refine HBG.out.mono ?_; rintro e w3 ⟨ad, cd, rfl, q1, q2, q3, q4, q5⟩; have Q1 := Lib.hid q1; have Q2 := Lib.hid q2; have Q3 := Lib.hid q3; have Q4 := Lib.hid q4; have Q5 := Lib.hid q5; clear q1 q2 q3 q4 q5 HBG))
  obtain ⟨m, hm⟩ : ∃ m, m = (tx l).length := ⟨_, rfl⟩
  have HM := Lib.hid hm
  rw [← hm]
  clear hm
  have X2 : w3.cell? ⟨D, 2, none⟩ = some (.int .i32 ex) := blk_cell (Q5.out.oldb HS.out.dec HS.out.dne) 2
  have hm200 : m ≤ 200 := by rw [HM.out]; exact tx_le HS.out.dig HS.out.nrm HS.out.len
  have hm1 : 1 ≤ m := by rw [HM.out]; exact tx_pos HS.out.dig HS.out.nrm HS.out.len
  have e1 : (-2000 : Int) ≤ ex := by omega
  by_cases hc : bitL l = 0 ∧ ex < 0
  · obtain ⟨hz, hx⟩ := hc
    have hzi : ((bitL l : Nat) : Int) = 0 := by omega
    have hx2 : ex ≤ 0 := by omega
    have h6 : -6 ≤ ex + ((m : Int) + -ex - 1) := by omega
    have EG : Hid (fG 69 ex l = fF ex (tx l)) := Lib.hid (by unfold fG; rw [if_pos (show bitL l = 0 ∧ ex < 0 from ⟨hz, hx⟩), if_pos ⟨hx2, by rw [← HM.out]; omega⟩])
    go_wp2_with (first | (go_at_call 24; refine (bl_c HS.out Q5.out).mono ?_; rintro e w4 ⟨rfl, rfl⟩) | (go_at_call 23; refine (ff_c HS.out HE.out.1 HE.out.2 HL1.out Q5.out HM.out Q1.out Q2.out Q3.out Q4.out).mono ?_; rintro e w9 ⟨v9, rfl, hf9⟩))
    have HF9 : Hid (Fm g0 w v9 (bs ++ ([45] ++ fG 69 ex l)) w9) := Lib.hid (by rw [EG.out]; simpa [List.append_assoc] using hf9)
    clear hf9
    go_wp2_with fail
    go_ret
    exact ⟨_, rfl, HF9.out⟩
  · have EI : Hid ((if bitL l = 0 ∧ ex < 0 then -ex else 0) = 0) := Lib.hid (if_neg hc)
    by_cases h6 : ex ≤ 0 ∧ -6 ≤ ex + ((m : Int) - 1)
    · have EG : Hid (fG 69 ex l = fF ex (tx l)) := Lib.hid (by unfold fG; rw [EI.out, if_pos ⟨h6.1, by rw [← HM.out]; omega⟩])
      obtain ⟨hx2, h6⟩ := h6
      by_cases hz : bitL l = 0
      · have hzi : ((bitL l : Nat) : Int) = 0 := by omega
        have hx : ¬ ex < 0 := fun h => hc ⟨hz, h⟩
        clear hc
        go_wp2_with (first | (go_at_call 24; refine (bl_c HS.out Q5.out).mono ?_; rintro e w4 ⟨rfl, rfl⟩) | (go_at_call 23; refine (ff_c HS.out HE.out.1 HE.out.2 HL1.out Q5.out HM.out Q1.out Q2.out Q3.out Q4.out).mono ?_; rintro e w9 ⟨v9, rfl, hf9⟩))
        have HF9 : Hid (Fm g0 w v9 (bs ++ ([45] ++ fG 69 ex l)) w9) := Lib.hid (by rw [EG.out]; simpa [List.append_assoc] using hf9)
        clear hf9
        go_wp2_with fail
        go_ret
        exact ⟨_, rfl, HF9.out⟩
      · have hzi : ¬ ((bitL l : Nat) : Int) = 0 := by omega
        clear hc
        go_wp2_with (first | (go_at_call 24; refine (bl_c HS.out Q5.out).mono ?_; rintro e w4 ⟨rfl, rfl⟩) | (go_at_call 23; refine (ff_c HS.out HE.out.1 HE.out.2 HL1.out Q5.out HM.out Q1.out Q2.out Q3.out Q4.out).mono ?_; rintro e w9 ⟨v9, rfl, hf9⟩))
        have HF9 : Hid (Fm g0 w v9 (bs ++ ([45] ++ fG 69 ex l)) w9) := Lib.hid (by rw [EG.out]; simpa [List.append_assoc] using hf9)
        clear hf9
        go_wp2_with fail
        go_ret
        exact ⟨_, rfl, HF9.out⟩
    · have EG : Hid (fG 69 ex l = fE 69 ex (tx l)) := Lib.hid (by unfold fG; rw [EI.out, if_neg (fun h => h6 ⟨h.1, by have := h.2; rw [← HM.out] at this; omega⟩)])
      by_cases hx2 : ex ≤ 0
      · have h7 : ¬ (-6 ≤ ex + ((m : Int) - 1)) := fun h => h6 ⟨hx2, h⟩
        by_cases hz : bitL l = 0
        · have hzi : ((bitL l : Nat) : Int) = 0 := by omega
          have hx : ¬ ex < 0 := fun h => hc ⟨hz, h⟩
          exfalso
          omega
        · have hzi : ¬ ((bitL l : Nat) : Int) = 0 := by omega
          clear hc h6
          go_wp2_with (first | (go_at_call 24; refine (bl_c HS.out Q5.out).mono ?_; rintro e w4 ⟨rfl, rfl⟩) | (go_at_call 22; refine (fe_c HS.out HE.out.1 HE.out.2 HL1.out Q5.out HM.out Q1.out Q2.out Q3.out Q4.out _).mono ?_; rintro e w9 ⟨v9, rfl, hf9⟩))
          have HF9 : Hid (Fm g0 w v9 (bs ++ ([45] ++ fG 69 ex l)) w9) := Lib.hid (by rw [EG.out]; simpa [List.append_assoc] using hf9)
          clear hf9
          go_wp2_with fail
          go_ret
          exact ⟨_, rfl, HF9.out⟩
      · by_cases hz : bitL l = 0
        · have hzi : ((bitL l : Nat) : Int) = 0 := by omega
          have hx : ¬ ex < 0 := fun h => hc ⟨hz, h⟩
          clear hc h6
          go_wp2_with (first | (go_at_call 24; refine (bl_c HS.out Q5.out).mono ?_; rintro e w4 ⟨rfl, rfl⟩) | (go_at_call 22; refine (fe_c HS.out HE.out.1 HE.out.2 HL1.out Q5.out HM.out Q1.out Q2.out Q3.out Q4.out _).mono ?_; rintro e w9 ⟨v9, rfl, hf9⟩))
          have HF9 : Hid (Fm g0 w v9 (bs ++ ([45] ++ fG 69 ex l)) w9) := Lib.hid (by rw [EG.out]; simpa [List.append_assoc] using hf9)
          clear hf9
          go_wp2_with fail
          go_ret
          exact ⟨_, rfl, HF9.out⟩
        · have hzi : ¬ ((bitL l : Nat) : Int) = 0 := by omega
          clear hc h6
          go_wp2_with (first | (go_at_call 24; refine (bl_c HS.out Q5.out).mono ?_; rintro e w4 ⟨rfl, rfl⟩) | (go_at_call 22; refine (fe_c HS.out HE.out.1 HE.out.2 HL1.out Q5.out HM.out Q1.out Q2.out Q3.out Q4.out _).mono ?_; rintro e w9 ⟨v9, rfl, hf9⟩))
          have HF9 : Hid (Fm g0 w v9 (bs ++ ([45] ++ fG 69 ex l)) w9) := Lib.hid (by rw [EG.out]; simpa [List.append_assoc] using hf9)
          clear hf9
          go_wp2_with fail
          go_ret
          exact ⟨_, rfl, HF9.out⟩

/-- the text of a Decimal of form 0 -/
noncomputable def fA (f : Int) (neg : Bool) (ex : Int) (l : List Int) : List Int :=
  (if neg then [45] else []) ++ (if f = 101 ∨ f = 69 then fE f ex (tx l) else if f = 102 then fF ex (tx l) else if f = 103 then fG 101 ex l else fG 69 ex l)
theorem dapp (f : Int) (hf5 : f = 101 ∨ f = 69 ∨ f = 102 ∨ f = 103 ∨ f = 71) (neg : Bool) (D t g0 cB : Nat) (ex : Int) (A : Option Addr) (l : List Int) (v : Value) (bs : List Int) (w : World) (hf : Fm g0 w v bs w) (hs : Src0 D t g0 cB ex neg A l w) (h0 : -100 ≤ ex) (h1 : ex ≤ 100) (hbs : bs.length ≤ 900) :
    Calls Tryz.prog 14 #[.pointer (some ⟨D, 0, none⟩), v, .int .u8 f] w fun e w' => ∃ v', e = .returned v' ∧ Fm g0 w v' (bs ++ fA f neg ex l) w' := by
  unfold fA
  rcases hf5 with rfl | rfl | rfl | rfl | rfl <;> cases neg
  · simpa using dapp_ep D t g0 cB ex A l v bs w hf hs h0 h1 hbs
  · simpa using dapp_en D t g0 cB ex A l v bs w hf hs h0 h1 hbs
  · simpa using dapp_Ep D t g0 cB ex A l v bs w hf hs h0 h1 hbs
  · simpa using dapp_En D t g0 cB ex A l v bs w hf hs h0 h1 hbs
  · simpa using dapp_fp D t g0 cB ex A l v bs w hf hs h0 h1 hbs
  · simpa using dapp_fn D t g0 cB ex A l v bs w hf hs h0 h1 hbs
  · simpa using dapp_gp D t g0 cB ex A l v bs w hf hs h0 h1 hbs
  · simpa using dapp_gn D t g0 cB ex A l v bs w hf hs h0 h1 hbs
  · simpa using dapp_Gp D t g0 cB ex A l v bs w hf hs h0 h1 hbs
  · simpa using dapp_Gn D t g0 cB ex A l v bs w hf hs h0 h1 hbs
end Go.Proofs.YtdfcomilhjoooaaGreatDoor.Div
