/- Decimal.Compose of form 0 on a Decimal whose words are one's own: at most a hundred bytes. -/
import Derived.Test.YtdfcomilhjoooaaDecComp
namespace Go.Proofs.Ytdfcomilhjoooaa.Be
open Go.RowKit Go.Proofs.YtdfcomilhjoooaaW.PrintWords Go.Proofs.Ytdfcomilhjoooaa.Base Go.Proofs.Ytdfcomilhjoooaa.Num

/-- the words of bytes, noughts at the end left out -/
def Ws (b : List Int) : List Int := (wsB b).take (nlTo (wsB b) (wsB b).length)
theorem Ws_len (b : List Int) : (Ws b).length = nlTo (wsB b) (wsB b).length := by
  have := nlTo_le (wsB b) (wsB b).length
  simp only [Ws, List.length_take]; omega
theorem Ws_nil : Ws [] = [] := rfl

/-- a Decimal of form 0 and its words -/
def DecB (B D : Nat) (w w' : World) (neg : Bool) (ex : Int) (l : List Int) : Prop :=
  ∃ A' c', w'.heap[D]? = some (.cells #[.int .i8 0, .bool neg, .int .i32 ex, .bool false, .slice A' l.length c', .bool false] 67 (0, 0)) ∧ ReadsInt w' .u64 A' l.length l ∧ (∀ a, A' = some a → ¬ a.block = D) ∧ Below B w w'

/-- what nat.setBytes leaves -/
def SetB (B D : Nat) (w : World) (neg : Bool) (e0 : Int) (xn : Bool) (A : Option Addr) (m cap : Nat) (l : List Int) (e : Ending) (w' : World) : Prop :=
  ∃ A' c', e = .returned (.slice A' l.length c') ∧ w'.heap[D]? = some (.cells #[.int .i8 0, .bool neg, .int .i32 e0, .bool xn, .slice A m cap, .bool false] 67 (0, 0)) ∧ ReadsInt w' .u64 A' l.length l ∧ (∀ a, A' = some a → ¬ a.block = D) ∧ Below B w w'

theorem setB_all (B D : Nat) (neg : Bool) (e0 : Int) (xn : Bool) (A : Option Addr) (m cap : Nat) (hcap : cap ≤ 1000) (ad : Addr) (cb : Nat) (b : List Int) (hb : b.length ≤ 100) (hcb : b.length ≤ cb) (hd : Dig 256 b) (w : World)
    (hD : w.heap[D]? = some (.cells #[.int .i8 0, .bool neg, .int .i32 e0, .bool xn, .slice A m cap, .bool false] 67 (0, 0)))
    (hz : (A = none ∧ cap = 0) ∨ ∃ g cur, A = some ⟨g, 0, none⟩ ∧ w.heap[g]? = some (.cells cur 80 (0, 0)) ∧ cur.size = cap ∧ B ≤ g)
    (hBw : B ≤ w.heap.size) (hr : ReadsInt w .u8 (some ad) b.length b) (hlt : ad.block < w.heap.size) (hne : ∀ a, A = some a → ad.block ≠ a.block) :
    Calls Try.prog 43 #[.slice A m cap, .slice (some ad) b.length cb] w fun e w' => SetB B D w neg e0 xn A m cap (Ws b) e w' := by
  have hgD : ∀ g cur, w.heap[g]? = some (.cells cur 80 (0, 0)) → ¬ g = D := by
    intro g cur hg h
    rw [h, hD] at hg
    injection hg with hg
    injection hg with _ h2 _
    exact absurd h2 (by decide)
  rcases Nat.eq_zero_or_pos b.length with h0 | h0
  · obtain rfl : b = [] := List.eq_nil_of_length_eq_zero h0
    have hA : A = none → cap = 0 := by
      intro h
      rcases hz with ⟨_, h2⟩ | ⟨g, cur, h2, _⟩
      · exact h2
      · rw [h] at h2; cases h2
    refine (setBytes_nil A m cap hcap hA (some ad) cb w).mono ?_
    rintro e w' ⟨rfl, rfl⟩
    refine ⟨A, cap, rfl, hD, ⟨rfl, by decide, fun h => absurd h (by decide)⟩, ?_, Below.refl _ _⟩
    intro a ha
    rcases hz with ⟨h2, _⟩ | ⟨g, cur, h2, h3, _⟩
    · rw [ha] at h2; cases h2
    · rw [ha] at h2; injection h2 with h2; subst h2; exact hgD g cur h3
  · have hz' : (A = none ∧ cap = 0) ∨ ∃ g cur, A = some ⟨g, 0, none⟩ ∧ w.heap[g]? = some (.cells cur 80 (0, 0)) ∧ cur.size = cap := by
      rcases hz with h | ⟨g, cur, h1, h2, h3, _⟩
      · exact .inl h
      · exact .inr ⟨g, cur, h1, h2, h3⟩
    refine (setBytes_core A m cap hcap ad cb b h0 hb hcb hd w hz' hr hlt hne).mono ?_
    rintro e w' ⟨g, cap', rfl, hc, hbut, hA, hown⟩
    have hBg : B ≤ g ∧ ¬ g = D := by
      rcases hA with hA | hA
      · rcases hz with ⟨h2, _⟩ | ⟨g', cur, h2, h3, _, h5⟩
        · rw [hA] at h2; cases h2
        · rw [hA] at h2; injection h2 with h2; injection h2 with h2; subst h2; exact ⟨h5, hgD _ cur h3⟩
      · exact ⟨by omega, by have := blk_lt hD; omega⟩
    refine ⟨some ⟨g, 0, none⟩, cap', by rw [Ws_len], hbut.blk hD (Ne.symm hBg.2), ?_, ?_, hbut.below hBg.1 hBw⟩
    · have := own_reads' hown
      rw [Ws_len]; exact this
    · intro a ha; injection ha with ha; subst ha; exact hBg.2

theorem decComp_all (B D : Nat) (n0 : Bool) (e0 : Int) (xn mm : Bool) (A : Option Addr) (m cap : Nat) (hcap : cap ≤ 1000) (neg : Bool) (ex : Int) (ad : Addr) (cb : Nat) (b : List Int) (hb : b.length ≤ 100) (hcb : b.length ≤ cb) (hd : Dig 256 b) (w : World)
    (hD : w.heap[D]? = some (.cells #[.int .i8 0, .bool n0, .int .i32 e0, .bool xn, .slice A m cap, .bool mm] 67 (0, 0)))
    (hz : (A = none ∧ cap = 0) ∨ ∃ g cur, A = some ⟨g, 0, none⟩ ∧ w.heap[g]? = some (.cells cur 80 (0, 0)) ∧ cur.size = cap ∧ B ≤ g)
    (hBD : B ≤ D) (hBw : B ≤ w.heap.size) (hr : ReadsInt w .u8 (some ad) b.length b) (hlt : ad.block < w.heap.size) (hneD : ¬ ad.block = D) (hne : ∀ a, A = some a → ad.block ≠ a.block) :
    Calls Try.prog 17 #[.pointer (some ⟨D, 0, none⟩), .int .u8 0, .bool neg, .slice (some ad) b.length cb, .int .i32 ex] w fun e w' => e = .returned .nilIface ∧ DecB B D w w' neg ex (Ws b) := by
  obtain ⟨W2, hW2⟩ : ∃ W2, W2 = (w.setCell ⟨D, 0, none⟩ (.int .i8 0)).setCell ⟨D, 1, none⟩ (.bool neg) := ⟨_, rfl⟩
  have hD2 : W2.heap[D]? = some (.cells #[.int .i8 0, .bool neg, .int .i32 e0, .bool xn, .slice A m cap, .bool mm] 67 (0, 0)) := by
    rw [hW2]; exact blk_set (blk_set hD 0 _) 1 _
  have hr2 : ReadsInt W2 .u8 (some ad) b.length b := by
    rw [hW2]; exact reads_set (reads_set hr (fun a h => by injection h with h; subst h; exact hneD) _) (fun a h => by injection h with h; subst h; exact hneD) _
  have hb2 : Below B w W2 := by rw [hW2]; exact ((Below.refl _ _).setCell hBD _).setCell hBD _
  have hs2 : W2.heap.size = w.heap.size := by rw [hW2]; simp
  obtain ⟨W3, hW3⟩ : ∃ W3, W3 = W2.setCell ⟨D, 5, none⟩ (.bool false) := ⟨_, rfl⟩
  have hD3 : W3.heap[D]? = some (.cells #[.int .i8 0, .bool neg, .int .i32 e0, .bool xn, .slice A m cap, .bool false] 67 (0, 0)) := by
    rw [hW3]; exact blk_set hD2 5 _
  have hr3 : ReadsInt W3 .u8 (some ad) b.length b := by
    rw [hW3]; exact reads_set hr2 (fun a h => by injection h with h; subst h; exact hneD) _
  have hb3 : Below B w W3 := by rw [hW3]; exact hb2.setCell hBD _
  have hs3 : W3.heap.size = w.heap.size := by rw [hW3]; simp [hs2]
  have hz3 : (A = none ∧ cap = 0) ∨ ∃ g cur, A = some ⟨g, 0, none⟩ ∧ W3.heap[g]? = some (.cells cur 80 (0, 0)) ∧ cur.size = cap ∧ B ≤ g := by
    rcases hz with h | ⟨g, cur, h1, h2, h3, h4⟩
    · exact .inl h
    · have hgD : ¬ g = D := by
        intro h
        rw [h, hD] at h2
        injection h2 with h2
        injection h2 with _ h2 _
        exact absurd h2 (by decide)
      refine .inr ⟨g, cur, h1, ?_, h3, h4⟩
      rw [hW3, hW2]
      exact blk_far (blk_far (blk_far h2 (p := ⟨D, 0, none⟩) hgD _) (p := ⟨D, 1, none⟩) hgD _) (p := ⟨D, 5, none⟩) hgD _
  have hN := setB_all B D neg e0 xn A m cap hcap ad cb b hb hcb hd W3 hD3 hz3 (by omega) hr3 (by omega) hne
  have hI := intBytes D 3 67 _ xn A m cap ad cb b W3 _ hD3 ⟨rfl, rfl⟩ hN (fun e w1 h => by
    obtain ⟨A', c', h1, h2, _⟩ := h
    exact ⟨A', _, c', h1, h2⟩)
  rw [hW3] at hI
  have hBB := bigBytes D 3 67 _ mm ad cb b W2 _ hD2 rfl hI (fun e w1 h => by
    obtain ⟨_, _, _, _, _, h2, _⟩ := h
    exact h2)
  rw [← hW3] at hBB
  have hP : Calls Try.prog 26 #[.pointer (some ⟨D, 3, none⟩), .slice (some ad) b.length cb] W2 fun e w' => e = .returned (.pointer (some ⟨D, 3, none⟩)) ∧ DecB B D w w' neg e0 (Ws b) := by
    refine hBB.mono ?_
    rintro e w' ⟨⟨w1, A', n', c', ⟨A2, c2, e1, h2, h3, h4, h5⟩, _, rfl⟩, he⟩
    injection e1 with e1
    injection e1 with e1 e2 e3
    subst e1; subst e2; subst e3
    refine ⟨he, A', c', blk_set (blk_set h2 4 _) 3 _, ?_, h4, ?_⟩
    · exact reads_set (reads_set h3 h4 _) h4 _
    · exact ((hb3.trans h5).setCell hBD _).setCell hBD _
  rw [hW2] at hP
  refine (decComp0 D 67 _ _ _ _ _ _ neg ad cb b ex w (fun w' => DecB B D w w' neg e0 (Ws b)) hD hP (fun w1 h => by
    obtain ⟨A', c', h1, _⟩ := h
    exact ⟨blk_cell h1 2, blk_frozen h1 2⟩)).mono ?_
  rintro e w' ⟨w1, ⟨A', c', h1, h2, h3, h4⟩, rfl, rfl⟩
  exact ⟨rfl, A', c', blk_set h1 2 _, reads_set h2 h3 _, h3, h4.setCell hBD _⟩
end Go.Proofs.Ytdfcomilhjoooaa.Be
