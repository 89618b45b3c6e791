/- The walk of laws.FnCompose for every argument. -/
import Derived.Test.YtdfcomilhjoooaaCompose
import Derived.Test.YtdfcomilhjoooaaAddR
import Derived.Test.YtdfcomilhjoooaaSpec3
namespace Go.Proofs.Ytdfcomilhjoooaa.Be
open Go.RowKit Go.Proofs.YtdfcomilhjoooaaW.PrintWords Go.Proofs.YtdfcomilhjoooaaW.PrintLast Go.Proofs.YtdfcomilhjoooaaW.PrintMore Go.Proofs.Ytdfcomilhjoooaa.Base Go.Proofs.Ytdfcomilhjoooaa.Num Go.Proofs.Ytdfcomilhjoooaa.Spec2
set_option linter.unusedVariables false

/-- the number so far, a row of one's own -/
def Sofar (w : World) (b : List Int) (k : Nat) (v : Value) (wr : World) (n : List Int) : Prop :=
  Kd.R (Kd.int .i64) 3 wr w.heap.size (fun k_ => w.heap.size ≤ k_) v n ∧ Rep 65536 n (bew (b.take k)) ∧ n.length ≤ 2 * k ∧ Below w.heap.size w wr

theorem sofar_zero {w W : World} {b : List Int} {g : Nat} (hg : W.heap[g]? = some (.cells #[] 3 (0, 0))) (hB : w.heap.size ≤ g) (hb : Below w.heap.size w W) : Sofar w b 0 (.slice (some ⟨g, 0, none⟩) 0 0) W [] :=
  ⟨Kd.R_of_own ⟨rfl, .inr ⟨g, 0, #[], rfl, hB, hg, Nat.le_refl _, by decide, rfl, rfl⟩⟩ (fun k hk => (show g = k by simpa [Value.ownBlock] using hk) ▸ hB), ⟨fun _ h => (by cases h), (by simp [Nrm]), rfl⟩, Nat.le_refl _, hb⟩

/-- one round -/
theorem shl_c {w wr : World} {b : List Int} {k : Nat} {v : Value} {n : List Int} (h : Sofar w b k v wr n) (hk : k ≤ 24) :
    Calls Try.prog 6 #[v, .int .i64 8] wr fun e w' => ∃ (A : Option Addr) (c : Nat) (s : List Int), e = .returned (.slice A s.length c) ∧ Kd.C (Kd.int .i64) w' A s.length s ∧ s.length ≤ c ∧ Rep 65536 s (256 * bew (b.take k)) ∧ s.length ≤ 2 * k + 1 ∧ Below w.heap.size w w' := by
  obtain ⟨hR, hrep, hl, hb⟩ := h
  obtain ⟨s, hs, hsr, hsl⟩ := shl_law n _ hrep (by omega) 3000 (Nat.le_refl _)
  refine (PFnCompose.spec_Shl.calls 3000 _ v n 8 s w wr hb hR hs).mono ?_
  rintro e w' ⟨v', rfl, hV, hbel, _⟩
  obtain ⟨A, c, rfl, hc, hF⟩ := hV
  have hV : Kd.V (Kd.int .i64) 3 w' w.heap.size _ (.slice A s.length c) s := ⟨A, c, rfl, hc, hF⟩
  exact ⟨A, c, s, rfl, (Kd.V_reads' hV).2.2, hc, hsr, by omega, hbel⟩

theorem small_c (x : Int) (h0 : 0 ≤ x) (h1 : x < 256) (w : World) :
    Calls Try.prog 7 #[.int .i64 x] w fun e w' => ∃ (A : Option Addr) (c : Nat) (s : List Int), e = .returned (.slice A s.length c) ∧ Kd.C (Kd.int .i64) w' A s.length s ∧ s.length ≤ c ∧ Rep 65536 s x ∧ s.length ≤ 1 ∧ Below w.heap.size w w' := by
  obtain ⟨s, hs, hsr, hsl⟩ := small_law x h0 (by omega) 2 (Nat.le_refl _)
  refine (PFnCompose.spec_Small.calls 2 x s w hs).mono ?_
  rintro e w' ⟨v', rfl, hR, hbel⟩
  obtain ⟨A, c, rfl⟩ := Kd.R_slice hR
  have h := (Kd.R_reads' hR).2
  exact ⟨A, c, s, rfl, h.2, h.1, hsr, hsl, hbel⟩

theorem add_c {w w2 : World} {b : List Int} {k : Nat} {A1 A2 : Option Addr} {c1 c2 : Nat} {s t : List Int} (hk : k < b.length) (hk2 : k < 24) (hb : Below w.heap.size w w2) (h1 : Kd.C (Kd.int .i64) w2 A1 s.length s) (hc1 : s.length ≤ c1) (hr1 : Rep 65536 s (256 * bew (b.take k))) (hl1 : s.length ≤ 2 * k + 1)
    (h2 : Kd.C (Kd.int .i64) w2 A2 t.length t) (hc2 : t.length ≤ c2) (hr2 : Rep 65536 t (b.getD k 0)) (hl2 : t.length ≤ 1) :
    Calls Try.prog 5 #[.slice A1 s.length c1, .slice A2 t.length c2] w2 fun e w' => ∃ v n, e = .returned v ∧ Sofar w b (k + 1) v w' n := by
  obtain ⟨r, hr, hrr, hrl⟩ := add_law s t _ _ hr1 hr2 (by omega) (by omega) 2000 (Nat.le_refl _)
  refine (addR 2000 A1 c1 s A2 c2 t r w2 h1 hc1 h2 hc2 hr).mono ?_
  rintro e w' ⟨v, rfl, hR, hbel⟩
  refine ⟨v, r, rfl, ?_, ?_, by omega, hb.trans (hbel.mono hb.size)⟩
  · exact Kd.R_lower (Kd.R_mono hR (fun k_ h_ => Nat.le_trans hb.size h_)) hb.size
  · rw [Num.take_succ b k hk, bew_snoc]; exact hrr

theorem has_c {w wr w1 : World} {b : List Int} {k : Nat} {A7 A' : Option Addr} {c7 c' : Nat} {n : List Int} (h : Sofar w b k (.slice A7 n.length c7) wr n) (hk : k = b.length) (hd : Dig 256 b) (hk2 : k ≤ 24) (hr : ReadsInt w1 .u64 A' (Ws b).length (Ws b)) (hc : (Ws b).length ≤ c') (hb : Below wr.heap.size wr w1) :
    ∀ w2, Below w1.heap.size w1 w2 → Calls Try.prog 9 #[.slice A' (Ws b).length c', .slice A7 n.length c7] w2 fun e w' => e = .returned (.bool true) ∧ Below w2.heap.size w2 w' := by
  intro w2 hb2
  obtain ⟨hR, hrep, hl, hbe⟩ := h
  rw [hk, List.take_length] at hrep
  have h1 := (Kd.R_reads' hR).2
  have hx : Rep (2 ^ 64) (Ws b) (bew b) := wsB_rep hd
  exact POfDec.spec_HasWords.calls 30000 A' c' (Ws b) A7 c7 n true w2 (Kd.C_of_reads (readsInt_of.1 (hr.below hb2))) hc (Kd.C_below (Kd.C_below h1.2 hb) hb2) h1.1 (Spec3.has_law (Ws b) n (bew b) hrep hx (by omega) 30000 (Nat.le_refl _))

theorem below_of_alloc {w w1 w2 : World} {o : Obj} (h : Below w.heap.size w w1) (h2 : Below (w1.alloc o).heap.size (w1.alloc o) w2) : Below w.heap.size w w2 :=
  (h.alloc h.size o).trans (h2.mono (by have := h.size; simp; omega))
theorem compose_c {w wr : World} {neg : Bool} {A : Option Addr} {c : Nat} {b : List Int} {ex : Int} (h0 : -32768 ≤ ex) (h1 : ex ≤ 32767) (hb : b.length ≤ 24) (hd : Dig 256 b) (hc : b.length ≤ c) (hr : ReadsInt w .u8 A b.length b) (hbel : Below w.heap.size w wr) :
    Calls Try.prog 8 #[.int .i64 0, .bool neg, .slice A b.length c, .int .i64 ex] wr fun e w' => ∃ A' c', e = .returned (.tuple #[.agg #[.int .i64 0, .bool neg, .slice A' (Ws b).length c', .int .i64 ex], .bool true]) ∧ Below wr.heap.size wr w' ∧ ReadsInt w' .u64 A' (Ws b).length (Ws b) ∧ (Ws b).length ≤ c' :=
  compose0 neg A c b ex (by omega) (by omega) (by omega) hd hc wr (hr.below hbel)

set_option maxRecDepth 100000 in
set_option maxHeartbeats 4000000 in
theorem fc_walk (neg : Bool) (A : Option Addr) (c : Nat) (b : List Int) (ex : Int) (h0 : -32768 ≤ ex) (h1 : ex ≤ 32767) (hc : b.length ≤ c) (hd : Dig 256 b) (w : World) (hr : ReadsInt w .u8 A b.length b) :
    Calls Try.prog 3 #[.bool neg, .slice A b.length c, .int .i16 ex] w fun e w' => e = .returned (.bool true) ∧ Below w.heap.size w w' := by
  have HR := Lib.hid hr
  have HC := Lib.hid hc
  have HD := Lib.hid hd
  have HX0 := Lib.hid h0
  have HX1 := Lib.hid h1
  clear hr hc hd
  obtain ⟨m, hm⟩ : ∃ m, m = b.length := ⟨_, rfl⟩
  have HM := Lib.hid hm
  rw [← hm]
  clear hm
  go_enter Try.func3, Try.ntmps3
  by_cases g1 : 2147483647 < (m : Int)
  · have d1 : decide (2147483647 < (m : Int)) = true := decide_eq_true g1
    go_wp2_with fail
    go_ret
    exact ⟨rfl, Below.refl _ _⟩
  have d1 : decide (2147483647 < (m : Int)) = false := decide_eq_false g1
  by_cases g2 : 24 < (m : Int)
  · have d2 : decide (24 < (m : Int)) = true := decide_eq_true g2
    go_wp2_with fail
    go_ret
    exact ⟨rfl, Below.refl _ _⟩
  have d2 : decide (24 < (m : Int)) = false := decide_eq_false g2
  have HM24 : Hid (m ≤ 24) := Lib.hid (by omega)
  clear g1 g2
  go_wp2_with fail
  go_loopw [7, 21] (fun v7 v21 wr => ∃ k n, k ≤ m ∧ v21 = .int .i64 (k : Nat) ∧ Sofar w b k v7 wr n) (fun _ v21 _ => m - (intOf v21).toNat)
  case atStart => exact ⟨0, [], Nat.zero_le _, rfl, sofar_zero (blk_new w _) (Nat.le_refl _) (below_alloc (Below.refl _ _) _)⟩
  case round =>
    obtain ⟨k, n, hk, rfl, hs⟩ := hrel
    have HS := Lib.hid hs
    clear hs
    by_cases hlt : k < m
    · obtain ⟨ad, rfl, hcl⟩ := HR.out.2.2 (by rw [← HM.out]; omega)
      have hcell : wr.cell? (ad.add k) = some (.int .u8 (b.getD k 0)) := by
        obtain ⟨ad', e, hcl'⟩ := (HR.out.below HS.out.2.2.2).2.2 (by rw [← HM.out]; omega)
        cases e
        exact hcl' k (by rw [← HM.out]; omega)
      clear hcl
      obtain ⟨x, hx⟩ : ∃ x, x = b.getD k 0 := ⟨_, rfl⟩
      rw [← hx] at hcell
      have hxr : 0 ≤ x ∧ x < 256 := by rw [hx]; exact HD.out.getD (by decide) k
      have HX := Lib.hid hx
      have HXR := Lib.hid hxr
      clear hx hxr
      have hk1 : k + 1 ≤ m := hlt
      have hk5 : k ≤ 100000 := by have := HM24.out; omega
      have hk6 : m - (k + 1) < m - k := by omega
      have hk7 : ((k : Int) + 1).toNat = k + 1 := by omega
      have hw1 : IntKind.i64.wrap x = x := wrapI HXR.out.1 (by have := HXR.out.2; omega)
      go_wp2_with fail
      refine (shl_c HS.out (by have := HM24.out; omega)).mono ?_
      rintro e w1 ⟨A1, c1, s1, rfl, q1, q2, q3, q4, q5⟩
      have P1 := Lib.hid q1
      have P2 := Lib.hid q2
      have P3 := Lib.hid q3
      have P4 := Lib.hid q4
      have P5 := Lib.hid q5
      clear q1 q2 q3 q4 q5
      go_wp2_with fail
      clear hw1
      refine (small_c x HXR.out.1 HXR.out.2 w1).mono ?_
      rintro e w2 ⟨A2, c2, s2, rfl, q1, q2, q3, q4, q5⟩
      have hw2 : Below w.heap.size w w2 := P5.out.trans (q5.mono P5.out.size)
      have HADD := Lib.hid (add_c (by rw [← HM.out]; exact hlt) (by have := HM24.out; omega) hw2 (Kd.C_below P1.out q5) P2.out P3.out P4.out q1 q2 (by rw [← HX.out]; exact q3) q4)
      clear q1 q2 q3 q4 q5 hw2
      go_wp2_with fail
      refine HADD.out.mono ?_
      rintro e w3 ⟨v3, n3, rfl, hs3⟩
      have HS3 := Lib.hid hs3
      clear hs3 HADD hcell
      go_wp2_with fail
      go_roundw
      case rel => exact ⟨k + 1, n3, hk1, by go_num, HS3.out⟩
      case measure => simp only [intOf, Int.toNat_natCast, hk7]; exact hk6
    · obtain rfl : k = m := by omega
      clear hlt hk
      obtain ⟨A7, c7, rfl⟩ := Kd.R_slice HS.out.1
      have HCO := Lib.hid (compose_c (neg := neg) HX0.out HX1.out (by rw [← HM.out]; exact HM24.out) HD.out HC.out HR.out HS.out.2.2.2)
      rw [← HM.out] at HCO
      go_wp2_with fail
      refine HCO.out.mono ?_
      rintro e w1 ⟨A', c', rfl, hb1, hr1, hc1⟩
      clear HCO
      have HHW := Lib.hid (has_c HS.out (by rw [HM.out]) HD.out (by have := HM24.out; omega) hr1 hc1 hb1)
      have HBE : Hid (Below w.heap.size w w1) := Lib.hid (HS.out.2.2.2.trans (hb1.mono HS.out.2.2.2.size))
      obtain ⟨q, hq⟩ : ∃ q, q = (Ws b).length := ⟨_, rfl⟩
      rw [← hq] at HHW ⊢
      clear hq hr1 hc1 hb1
      go_wp2_with fail
      refine (HHW.out _ (below_alloc (Below.refl _ _) _)).mono ?_
      rintro e w2 ⟨rfl, hb2⟩
      have hob := blk_below (blk_new w1 _) hb2
      have Q3 := blk_cell hob 3
      simp only [List.getElem?_toArray, List.getElem?_cons_zero, List.getElem?_cons_succ] at Q3
      have HB2 := Lib.hid (below_of_alloc HBE.out hb2)
      clear hob hb2
      go_wp2_with fail
      go_ret
      exact ⟨rfl, HB2.out⟩
end Go.Proofs.Ytdfcomilhjoooaa.Be
