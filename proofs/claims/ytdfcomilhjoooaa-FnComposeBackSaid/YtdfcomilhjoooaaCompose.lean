/- impl.Compose of form 0: at most a hundred bytes. -/
import Derived.Test.YtdfcomilhjoooaaDecAll
import Derived.Test.YtdfcomilhjoooaaTold
import Derived.Test.YtdfcomilhjoooaaBase7
import Derived.Laws.AppendOwnNone
namespace Go.Proofs.Ytdfcomilhjoooaa.Be
open Go.RowKit Go.Proofs.YtdfcomilhjoooaaW.PrintWords Go.Proofs.Ytdfcomilhjoooaa.Base Go.Proofs.Ytdfcomilhjoooaa.Num
set_option linter.unusedVariables false

theorem infoB : (Try.prog.info? 5).map (fun i => (i.zero, i.size, i.bytes)) = some (some (.int .u8 0), 1, 1) := by kernel_rfl

/-- a Decimal that holds 7, its words one's own -/
def Made7 (w w1 : World) (D : Nat) : Prop := ∃ g cur c', w.heap.size ≤ D ∧ w1.heap[D]? = some (.cells #[.int .i8 0, .bool false, .int .i32 0, .bool false, .slice (some ⟨g, 0, none⟩) 1 c', .bool false] 67 (0, 0)) ∧
  w1.heap[g]? = some (.cells cur 80 (0, 0)) ∧ cur.size = c' ∧ c' ≤ 5 ∧ w.heap.size ≤ g ∧ Below w.heap.size w w1
theorem made7 (g : Nat) (w : World) (hg : w.heap[g]? = some (.cells #[.int .u64 7] 49 (0, 0))) :
    Calls Try.prog 16 #[.agg #[.int .i64 0, .bool false, .slice (some ⟨g, 0, none⟩) 1 1, .int .i64 0]] w fun e w' => ∃ D, e = .returned (.pointer (some ⟨D, 0, none⟩)) ∧ Made7 w w' D := by
  have hr : ReadsInt w .u64 (some ⟨g, 0, none⟩) ([7] : List Int).length ([7] : List Int) := ⟨rfl, by decide, fun _ => ⟨_, rfl, fun j hj => by
    obtain rfl : j = 0 := by simpa using hj
    exact blk_cell hg 0⟩⟩
  refine (made_any false 0 (by decide) (by decide) (some ⟨g, 0, none⟩) 1 [7] (by decide) w hr).mono ?_
  rintro e w' ⟨D, A', c', rfl, hD, hb, hown, hc, hA, hbel⟩
  have e1 : nlTo ([7] : List Int) ([7] : List Int).length = 1 := by decide
  rw [e1] at hb hown hc
  refine ⟨D, rfl, ?_⟩
  rcases hown.2 with ⟨hv, h2⟩ | ⟨g', cap, cur, hv, hB, hheap, hcap, hmax, hcs, _⟩
  · injection hv with h3 h4 _
    exact absurd h4 (by decide)
  · injection hv with h3 _ h5
    subst h3; subst h5
    exact ⟨g', _, _, hD, hb, hheap, by simpa using hcs, by omega, hB, hbel⟩

/-- the bytes copied -/
def Copied (w w3 : World) (b : List Int) (v : Value) (w4 : World) : Prop := ∃ ad c, v = .slice (some ad) b.length c ∧ b.length ≤ c ∧ ReadsInt w4 .u8 (some ad) b.length b ∧ ad.block < w4.heap.size ∧ (∃ cur, w4.heap[ad.block]? = some (.cells cur 5 (0, 0))) ∧ w.heap.size + 1 ≤ ad.block ∧
  Below w3.heap.size w3 w4
theorem own_u8 {w4 : World} {B n : Nat} {v : Value} {b : List Int} (h : w4.ownsRow B 5 1 v n (nums .u8 b)) (hv : ¬ v = .slice none 0 0) (hn : n = b.length) :
    ∃ ad c, v = .slice (some ad) b.length c ∧ b.length ≤ c ∧ ReadsInt w4 .u8 (some ad) b.length b ∧ ad.block < w4.heap.size ∧ (∃ cur, w4.heap[ad.block]? = some (.cells cur 5 (0, 0))) ∧ B ≤ ad.block := by
  subst hn
  rcases h.2 with ⟨h1, _⟩ | ⟨g, cap, cur, rfl, hB, hh, hcap, _⟩
  · exact absurd h1 hv
  · exact ⟨⟨g, 0, none⟩, cap, rfl, hcap, own_reads' h, blk_lt hh, ⟨_, hh⟩, hB⟩

theorem own_empty {w : World} {B g : Nat} (h : w.heap[g]? = some (.cells #[] 5 (0, 0))) (hB : B ≤ g) : w.ownsRow B 5 1 (.slice (some ⟨g, 0, none⟩) 0 0) 0 (nums .u8 []) :=
  ⟨rfl, .inr ⟨g, 0, #[], rfl, hB, h, Nat.le_refl _, by decide, rfl, rfl⟩⟩

theorem copied_own {w w2 w4 : World} {b : List Int} {v : Value} (hs : w.heap.size + 1 ≤ w2.heap.size) (hown : w4.ownsRow (w.heap.size + 1) 5 1 v (0 + b.length) (nums .u8 [] ++ nums .u8 b))
    (hg : (w2.alloc (.cells #[] 5)).grownBy w4 (Value.slice (some ⟨w2.heap.size, 0, none⟩) 0 0).ownBlock) (hn : v = .slice none 0 0 ↔ Value.slice (some ⟨w2.heap.size, 0, none⟩) 0 0 = .slice none 0 0 ∧ b.length = 0) :
    Copied w w2 b v w4 := by
  have e : nums .u8 [] ++ nums .u8 b = nums .u8 b := rfl
  rw [e] at hown
  obtain ⟨ad, c, h1, h2, h3, h4, h5, h6⟩ := own_u8 hown (fun h => by have := (hn.1 h).1; cases this) (by omega)
  refine ⟨ad, c, h1, h2, h3, h4, h5, h6, ?_⟩
  refine ((Below.refl w2.heap.size w2).alloc (Nat.le_refl _) _).grown hg (by simp) (fun k hk => ?_)
  have : w2.heap.size = k := by simpa [Value.ownBlock] using hk
  omega
theorem copied_none {w w2 : World} (hs : w.heap.size + 1 ≤ w2.heap.size) : Copied w w2 [] (.slice (some ⟨w2.heap.size, 0, none⟩) 0 0) (w2.alloc (.cells #[] 5)) :=
  ⟨⟨w2.heap.size, 0, none⟩, 0, rfl, Nat.le_refl _, ⟨rfl, by decide, fun h => absurd h (by decide)⟩, by simp, ⟨_, blk_new w2 _⟩, hs, (Below.refl w2.heap.size w2).alloc (Nat.le_refl _) _⟩

theorem dec_call {w W w2 w4 : World} {D : Nat} {b : List Int} {v : Value} (neg : Bool) (ex : Int) (hs : W.heap.size = w.heap.size + 2) (hM : Made7 W w2 D) (hcp : Copied w w2 b v w4) (hb : b.length ≤ 100) (hd : Dig 256 b) :
    Calls Try.prog 17 #[.pointer (some ⟨D, 0, none⟩), .int .u8 0, .bool neg, v, .int .i32 ex] w4 fun e w' => e = .returned .nilIface ∧ DecB (w.heap.size + 1) D w4 w' neg ex (Ws b) := by
  obtain ⟨g, cur, c', h1, h2, h3, h4, h5, h6, h7⟩ := hM
  obtain ⟨ad, c, rfl, k2, k3, k4, ⟨curb, k5⟩, k6, k7⟩ := hcp
  have hD4 := blk_below h2 k7
  have hg4 := blk_below h3 k7
  have hl := blk_lt hD4
  exact decComp_all (w.heap.size + 1) D false 0 false false (some ⟨g, 0, none⟩) 1 c' (by omega) neg ex ad c b hb k2 hd w4 hD4 (.inr ⟨g, cur, rfl, hg4, h4, by omega⟩) (by omega) (by omega) k3 k4 (blk_ne k5 hD4 (by decide)) (fun a ha => by injection ha with ha; subst ha; exact blk_ne k5 hg4 (by decide))

theorem told_dec {w w4 w5 : World} {D : Nat} {neg : Bool} {ex : Int} {l : List Int} (h0 : -2147483648 ≤ ex) (h1 : ex ≤ 2147483647) (hl : l.length ≤ 1000) (h : DecB (w.heap.size + 1) D w4 w5 neg ex l) :
    Calls Try.prog 18 #[.pointer (some ⟨D, 0, none⟩)] w5 fun e w' => ∃ A' c', e = .returned (.agg #[.int .i64 0, .bool neg, .slice A' l.length c', .int .i64 ex]) ∧ Below w5.heap.size w5 w' ∧ ReadsInt w' .u64 A' l.length l ∧ (∀ a, A' = some a → w5.heap.size ≤ a.block) ∧ l.length ≤ c' := by
  obtain ⟨A, c, k1, k2, _, _⟩ := h
  refine (told_any D 67 neg false false ex h0 h1 A c l (by omega) w5 k2 k1).mono ?_
  rintro e w' ⟨A', c', rfl, hb, hown⟩
  obtain ⟨A2, c2, e2, h6, _, _, h5⟩ := own_form hown
  injection e2 with e2 _ e3
  subst e2; subst e3
  exact ⟨A', c', rfl, hb, own_reads' hown, fun a ha => (h5 a ha).2, h6⟩

theorem Ws_short {b : List Int} (hb : b.length ≤ 100) : (Ws b).length ≤ 1000 := by
  have h1 := nlTo_le (wsB b) (wsB b).length
  rw [Ws_len]; rw [wsB_len] at h1 ⊢; omega
theorem size5 {w W w2 w4 w5 : World} {D : Nat} {b l : List Int} {v : Value} {neg : Bool} {ex : Int} (hM : Made7 W w2 D) (hcp : Copied w w2 b v w4) (hd : DecB (w.heap.size + 1) D w4 w5 neg ex l) : w.heap.size + 1 ≤ w5.heap.size := by
  obtain ⟨ad, c, rfl, k2, k3, k4, ⟨curb, k5⟩, k6, k7⟩ := hcp
  obtain ⟨A, c2, m1, m2, m3, m4⟩ := hd
  have := m4.size
  omega
theorem chain_all {w W w2 w4 w5 w6 : World} {D : Nat} {b l : List Int} {v : Value} {neg : Bool} {ex : Int} {o : Obj} (hbw : Below w.heap.size w W) (hs : W.heap.size = w.heap.size + 2) (hR : W.heap[w.heap.size]? = some o) (hM : Made7 W w2 D) (hcp : Copied w w2 b v w4) (hd : DecB (w.heap.size + 1) D w4 w5 neg ex l) (hb : Below w5.heap.size w5 w6) :
    w6.heap[w.heap.size]? = some o ∧ Below w.heap.size w w6 := by
  obtain ⟨g, cur, c', h1, h2, h3, h4, h5, h6, h7⟩ := hM
  obtain ⟨ad, c, rfl, k2, k3, k4, ⟨curb, k5⟩, k6, k7⟩ := hcp
  obtain ⟨A, c2, m1, m2, m3, m4⟩ := hd
  have s2 := h7.size
  have s4 := k7.size
  have s5 := m4.size
  refine ⟨?_, ?_⟩
  · have r4 := blk_below (blk_below hR h7) k7
    have r5 := (m4.block _ (by omega)).trans r4
    exact blk_below r5 hb
  · exact (((hbw.trans (h7.mono (by omega))).trans (k7.mono (by omega))).trans (m4.mono (by omega))).trans (hb.mono (by omega))

set_option maxRecDepth 100000 in
set_option maxHeartbeats 2000000 in
theorem compose0 (neg : Bool) (B : Option Addr) (cb : Nat) (b : List Int) (ex : Int) (h0 : -2147483648 ≤ ex) (h1 : ex ≤ 2147483647) (hb : b.length ≤ 100) (hd : Dig 256 b) (hcb : b.length ≤ cb) (w : World) (hr : ReadsInt w .u8 B b.length b) :
    Calls Try.prog 8 #[.int .i64 0, .bool neg, .slice B b.length cb, .int .i64 ex] w fun e w' => ∃ A' c', e = .returned (.tuple #[.agg #[.int .i64 0, .bool neg, .slice A' (Ws b).length c', .int .i64 ex], .bool true]) ∧
      Below w.heap.size w w' ∧ ReadsInt w' .u64 A' (Ws b).length (Ws b) ∧ (Ws b).length ≤ c' := by
  have d1 : decide (ex < -2147483648) = false := decide_eq_false (by omega)
  have d2 : decide (2147483647 < ex) = false := decide_eq_false (by omega)
  obtain ⟨i0, hi, hz0, hz1, hz2⟩ := info_parts infoB
  obtain ⟨W, hW⟩ : ∃ W, W = (w.alloc (.cells #[.int .i64 0, .bool false, .slice none 0 0, .int .i64 0] 31)).alloc (.cells #[.int .u64 7] 49) := ⟨_, rfl⟩
  have HWE := Lib.hid hW
  have hg : W.heap[w.heap.size + 1]? = some (.cells #[.int .u64 7] 49 (0, 0)) := by
    rw [hW]; have := blk_new (w.alloc (.cells #[.int .i64 0, .bool false, .slice none 0 0, .int .i64 0] 31)) (.cells #[.int .u64 7] 49); rw [World.size_alloc] at this; exact this
  have HRes : Hid (W.heap[w.heap.size]? = some (.cells #[.int .i64 0, .bool false, .slice none 0 0, .int .i64 0] 31 (0, 0))) := Lib.hid (by rw [hW]; exact blk_alloc (blk_new w _) _)
  have HBW : Hid (Below w.heap.size w W) := Lib.hid (by rw [hW]; go_grown)
  have HSZ : Hid (W.heap.size = w.heap.size + 2) := Lib.hid (by rw [hW]; simp)
  have HM := Lib.hid (made7 _ W hg)
  have HR := Lib.hid hr
  have HD := Lib.hid hd
  have HB := Lib.hid hb
  have HCB := Lib.hid hcb
  have HX0 := Lib.hid h0
  have HX1 := Lib.hid h1
  clear hW hg hr hd hb hcb
  rcases B with _ | ad
  · obtain rfl : b = [] := by
      rcases Nat.eq_zero_or_pos b.length with h | h
      · exact List.eq_nil_of_length_eq_zero h
      · obtain ⟨a, h, _⟩ := HR.out.2.2 h; cases h
    go_enter Try.func8, Try.ntmps8
    go_wp2_with fail
    rw [← HWE.out]
    refine HM.out.mono ?_
    rintro e w2 ⟨D, rfl, hM⟩
    have HM2 := Lib.hid hM
    clear hM HM
    have HS2 : Hid (w.heap.size + 1 ≤ w2.heap.size) := Lib.hid (by have := HM2.out.choose_spec.choose_spec.choose_spec.2.2.2.2.2.2.size; have := HSZ.out; omega)
    go_wp2_with (first | (at_builtin; refine wpList_append_own_none rfl _ _ 22 rfl (w.heap.size + 1) 5 i0 1 Try.underlying22 hi _ 0 (nums .u8 []) rfl (own_empty (blk_new w2 _) HS2.out) rfl ?_))
    have HCP := Lib.hid (copied_none (w := w) HS2.out)
    refine (dec_call neg ex HSZ.out HM2.out HCP.out HB.out HD.out).mono ?_
    rintro e w5 ⟨rfl, hdc⟩
    have HDC := Lib.hid hdc
    clear hdc
    go_wp2_with fail
    refine (told_dec HX0.out HX1.out (Ws_short HB.out) HDC.out).mono ?_
    rintro e w6 ⟨A', c', rfl, hb6, hr6, ha6, hc6⟩
    have hsz5 : w.heap.size + 1 ≤ w5.heap.size := size5 HM2.out HCP.out HDC.out
    have hne6 : ∀ a, A' = some a → ¬ a.block = w.heap.size := fun a h => by have := ha6 a h; omega
    have HNE := Lib.hid hne6
    clear hsz5 hne6 ha6
    obtain ⟨hres, hbel⟩ := chain_all HBW.out HSZ.out HRes.out HM2.out HCP.out HDC.out hb6
    have Q0 := blk_cell hres 0
    have Q1 := blk_cell hres 1
    have Q2 := blk_cell hres 2
    have Q3 := blk_cell hres 3
    simp only [List.getElem?_toArray, List.getElem?_cons_zero, List.getElem?_cons_succ] at Q0 Q1 Q2 Q3
    have F0 := blk_frozen hres 0
    have F1 := blk_frozen hres 1
    have F2 := blk_frozen hres 2
    have F3 := blk_frozen hres 3
    have HRES := Lib.hid hres
    have HBEL := Lib.hid hbel
    have HR6 := Lib.hid hr6
    have HB6 := Lib.hid hb6
    have HC6 := Lib.hid hc6
    clear hres hbel hr6 hb6 hc6
    go_wp2_with fail
    refine bodyPost_ret (results_ct rfl _ _ w.heap.size 31 _ (0, 0) _ rfl (blk_set (blk_set (blk_set (blk_set HRES.out 0 _) 1 _) 2 _) 3 _) Try.underlying31 rfl (by kernel_rfl)) rfl ?_
    exact ⟨A', c', rfl, (((HBEL.out.setCell (Nat.le_refl _) _).setCell (Nat.le_refl _) _).setCell (Nat.le_refl _) _).setCell (Nat.le_refl _) _, reads_set (reads_set (reads_set (reads_set HR6.out HNE.out _) HNE.out _) HNE.out _) HNE.out _, HC6.out⟩
  · have hcell : ∀ W' : World, ReadsInt W' .u8 (some ad) b.length b → ∀ j u, (nums .u8 b)[j]? = some u → W'.cell? (ad.add j) = some u := by
      intro W' hr j u hj
      simp only [nums, List.getElem?_map, Option.map_eq_some_iff] at hj
      obtain ⟨x, hx, rfl⟩ := hj
      have hl : j < b.length := by
        rcases Nat.lt_or_ge j b.length with h | h
        · exact h
        · rw [List.getElem?_eq_none h] at hx; cases hx
      obtain ⟨ad', e, hc⟩ := hr.2.2 (by omega)
      cases e
      rw [hc j hl, List.getD_eq_getElem?_getD, hx]
      rfl
    have HCELL := Lib.hid hcell
    clear hcell
    go_enter Try.func8, Try.ntmps8
    go_wp2_with fail
    rw [← HWE.out]
    refine HM.out.mono ?_
    rintro e w2 ⟨D, rfl, hM⟩
    have HM2 := Lib.hid hM
    clear hM HM
    have hbel2 := HM2.out.choose_spec.choose_spec.choose_spec.2.2.2.2.2.2
    have HS2 : Hid (w.heap.size + 1 ≤ w2.heap.size) := Lib.hid (by have := hbel2.size; have := HSZ.out; omega)
    have HR2 : Hid (ReadsInt w2 .u8 (some ad) b.length b) := Lib.hid ((HR.out.below HBW.out).below hbel2)
    clear hbel2
    go_wp2_with (first | (at_builtin; refine wpList_append_own _ rfl _ _ 22 rfl (w.heap.size + 1) 5 i0 (.int .u8 0) 1 1 Try.underlying22 hi hz0 hz1 hz2 rfl (by decide) _ 0 (nums .u8 []) rfl (own_empty (blk_new w2 _) HS2.out) ad b.length cb (nums .u8 b) rfl (by rw [nums_length, Nat.mul_one]) (HCELL.out _ (HR2.out.below (below_alloc (Below.refl _ _) _))) (nums_one .u8 b) (by have := HB.out; unfold maxLen; omega) (by have := HB.out; omega) (by have := HS2.out; simp; omega) ?_; intro v' w4 hown' hgrow hnil))
    have hcp := copied_own (w := w) HS2.out hown' hgrow hnil
    have HCP := Lib.hid hcp
    obtain ⟨ad4, c4, rfl, -⟩ := hcp
    clear hown' hgrow hnil
    go_wp2_with fail
    refine (dec_call neg ex HSZ.out HM2.out HCP.out HB.out HD.out).mono ?_
    rintro e w5 ⟨rfl, hdc⟩
    have HDC := Lib.hid hdc
    clear hdc
    go_wp2_with fail
    refine (told_dec HX0.out HX1.out (Ws_short HB.out) HDC.out).mono ?_
    rintro e w6 ⟨A', c', rfl, hb6, hr6, ha6, hc6⟩
    have hsz5 : w.heap.size + 1 ≤ w5.heap.size := size5 HM2.out HCP.out HDC.out
    have hne6 : ∀ a, A' = some a → ¬ a.block = w.heap.size := fun a h => by have := ha6 a h; omega
    have HNE := Lib.hid hne6
    clear hsz5 hne6 ha6
    obtain ⟨hres, hbel⟩ := chain_all HBW.out HSZ.out HRes.out HM2.out HCP.out HDC.out hb6
    have Q0 := blk_cell hres 0
    have Q1 := blk_cell hres 1
    have Q2 := blk_cell hres 2
    have Q3 := blk_cell hres 3
    simp only [List.getElem?_toArray, List.getElem?_cons_zero, List.getElem?_cons_succ] at Q0 Q1 Q2 Q3
    have F0 := blk_frozen hres 0
    have F1 := blk_frozen hres 1
    have F2 := blk_frozen hres 2
    have F3 := blk_frozen hres 3
    have HRES := Lib.hid hres
    have HBEL := Lib.hid hbel
    have HR6 := Lib.hid hr6
    have HB6 := Lib.hid hb6
    have HC6 := Lib.hid hc6
    clear hres hbel hr6 hb6 hc6
    go_wp2_with fail
    refine bodyPost_ret (results_ct rfl _ _ w.heap.size 31 _ (0, 0) _ rfl (blk_set (blk_set (blk_set (blk_set HRES.out 0 _) 1 _) 2 _) 3 _) Try.underlying31 rfl (by kernel_rfl)) rfl ?_
    exact ⟨A', c', rfl, (((HBEL.out.setCell (Nat.le_refl _) _).setCell (Nat.le_refl _) _).setCell (Nat.le_refl _) _).setCell (Nat.le_refl _) _, reads_set (reads_set (reads_set (reads_set HR6.out HNE.out _) HNE.out _) HNE.out _) HNE.out _, HC6.out⟩
end Go.Proofs.Ytdfcomilhjoooaa.Be
