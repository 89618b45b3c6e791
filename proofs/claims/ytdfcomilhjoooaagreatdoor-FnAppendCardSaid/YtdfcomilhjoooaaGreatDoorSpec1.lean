/- Plain laws of the printed functions trim, Of, Words, HasWords, OfDec: they tell something for every list of at most three words; OfDec's yes says that the form is 0 and the last word is no nought. -/
import Derived.Test.YtdfcomilhjoooaaGreatDoorPOfDecx2
import Derived.Test.YtdfcomilhjoooaaGreatDoorBase2
namespace Go.Proofs.YtdfcomilhjoooaaGreatDoor.Spec
open Go.RowKit Go.Proofs.YtdfcomilhjoooaaGreatDoorW.PrintWords Go.Proofs.YtdfcomilhjoooaaGreatDoorW.PrintLast Go.Proofs.YtdfcomilhjoooaaGreatDoorW.PrintMore Go.Proofs.YtdfcomilhjoooaaGreatDoor.POfDec Go.Proofs.YtdfcomilhjoooaaGreatDoor.Base

theorem w64 {i : Int} (h0 : 0 ≤ i) (h1 : i ≤ 1000000000) : wrap64 i = i := by unfold wrap64; omega
theorem nlTo_take (l : List Int) (m k : Nat) (h : k ≤ m) : nlTo (l.take m) k = nlTo l k := by
  induction k with
  | zero => rfl
  | succ k ih =>
    have e : (l.take m).getD k 0 = l.getD k 0 := by
      simp only [List.getD_eq_getElem?_getD, List.getElem?_take]
      rw [if_pos (by omega)]
    simp only [nlTo, e, ih (by omega)]

theorem trim_some : ∀ (n : Nat) (l : List Int) (k : Nat), l.length = n → n ≤ 1000000 → n < k → spec_trim.l0 k l = some (l.take (nlTo l l.length)) := by
  intro n
  induction n with
  | zero =>
    intro l k hl _ hk
    obtain ⟨k, rfl⟩ : ∃ j, k = j + 1 := ⟨k - 1, by omega⟩
    obtain rfl : l = [] := List.eq_nil_of_length_eq_zero hl
    rfl
  | succ n ih =>
    intro l k hl hn hk
    obtain ⟨k, rfl⟩ : ∃ j, k = j + 1 := ⟨k - 1, by omega⟩
    have e : wrap64 ((l.length : Int) - 1) = n := by rw [hl, w64 (by omega) (by omega)]; omega
    simp only [spec_trim.l0, e]
    rw [if_pos (by omega), if_pos (by omega), if_pos (by omega)]
    have er : rd l (n : Int) = l.getD n 0 := by simp [rd]
    rw [er]
    by_cases h0 : l.getD n 0 = 0
    · rw [if_pos h0, if_pos (by omega)]
      have et : ((n : Int)).toNat = n := by omega
      rw [et]
      have hlt : (l.take n).length = n := by simp; omega
      rw [ih (l.take n) k hlt (by omega) (by omega), hlt, nlTo_take l n n (Nat.le_refl _), List.take_take, Nat.min_eq_left (nlTo_le l n), hl, nlTo, if_pos h0]
    · rw [if_neg h0, hl, nlTo, if_neg h0, ← hl, List.take_length]

/-- the four figures of 16 bits of a word -/
def fig (w : Int) (j : Int) : Int := wrap64 (Go.bits .and .u64 (shr .u64 w (16 * j)) 65535)
def block (w : Int) : List Int := [fig w 0, fig w 1, fig w 2, fig w 3]

theorem of_inner (k : Nat) (x3 : List Int) (w : Int) (x8 : List Int) (x9 x10 : Int) (h : x3.length ≤ 1000000) :
    spec_Of.l1 (k + 5) x3 w 0 x8 x9 x10 = spec_Of.l0 k (x3 ++ block w) x8 x9 (wrap64 (x10 + 1)) := by
  have l1 : (x3 ++ [fig w 0]).length < 17592186044416 := by simp; omega
  have l2 : (x3 ++ [fig w 0] ++ [fig w 1]).length < 17592186044416 := by simp; omega
  have l3 : (x3 ++ [fig w 0] ++ [fig w 1] ++ [fig w 2]).length < 17592186044416 := by simp; omega
  have e0 : wrap64 (16 * 0) = 0 := w64 (by omega) (by omega)
  have e1 : wrap64 (16 * 1) = 16 := w64 (by omega) (by omega)
  have e2 : wrap64 (16 * 2) = 32 := w64 (by omega) (by omega)
  have e3 : wrap64 (16 * 3) = 48 := w64 (by omega) (by omega)
  have i1 : wrap64 (0 + 1) = 1 := w64 (by omega) (by omega)
  have i2 : wrap64 (1 + 1) = 2 := w64 (by omega) (by omega)
  have i3 : wrap64 (2 + 1) = 3 := w64 (by omega) (by omega)
  have i4 : wrap64 (3 + 1) = 4 := w64 (by omega) (by omega)
  have f0 : wrap64 (Go.bits .and .u64 (shr .u64 w 0) 65535) = fig w 0 := by rw [fig, Int.mul_zero]
  have f1 : wrap64 (Go.bits .and .u64 (shr .u64 w 16) 65535) = fig w 1 := by rw [fig, Int.mul_one]
  have f2 : wrap64 (Go.bits .and .u64 (shr .u64 w 32) 65535) = fig w 2 := by rw [fig, show (16 : Int) * 2 = 32 from rfl]
  have f3 : wrap64 (Go.bits .and .u64 (shr .u64 w 48) 65535) = fig w 3 := by rw [fig, show (16 : Int) * 3 = 48 from rfl]
  rw [spec_Of.l1, if_pos (by decide), e0, if_pos (by decide), if_pos (by omega), f0, i1]
  rw [spec_Of.l1, if_pos (by decide), e1, if_pos (by decide), if_pos l1, f1, i2]
  rw [spec_Of.l1, if_pos (by decide), e2, if_pos (by decide), if_pos l2, f2, i3]
  rw [spec_Of.l1, if_pos (by decide), e3, if_pos (by decide), if_pos l3, f3, i4]
  rw [spec_Of.l1, if_neg (by decide)]
  simp [block]

theorem of_some (l : List Int) (hl : l.length ≤ 1000) : ∀ (d i : Nat) (x3 : List Int) (k : Nat), d + i = l.length → x3.length = 4 * i → 6 * d + 4 * l.length + 2 < k →
    spec_Of.l0 k x3 l (l.length : Int) (i : Int) = some ((x3 ++ (l.drop i).flatMap block).take (nlTo (x3 ++ (l.drop i).flatMap block) (4 * l.length))) := by
  intro d
  induction d with
  | zero =>
    intro i x3 k hi h3 hk
    obtain ⟨k, rfl⟩ : ∃ j, k = j + 1 := ⟨k - 1, by omega⟩
    rw [spec_Of.l0, if_neg (by omega)]
    have e : l.drop i = [] := List.drop_eq_nil_of_le (by omega)
    rw [spec_trim.f, trim_some (4 * l.length) x3 k (by omega) (by omega) (by omega)]
    simp only [e, List.flatMap_nil, List.append_nil, Option.bind_some]
    rw [show x3.length = 4 * l.length by omega]
  | succ d ih =>
    intro i x3 k hi h3 hk
    obtain ⟨k, rfl⟩ : ∃ j, k = j + 1 + 5 := ⟨k - 6, by omega⟩
    rw [show k + 1 + 5 = (k + 5) + 1 by omega, spec_Of.l0, if_pos (by omega), if_pos (by omega), if_pos (by omega), of_inner _ _ _ _ _ _ (by omega)]
    have e1 : wrap64 ((i : Int) + 1) = ((i + 1 : Nat) : Int) := by rw [w64 (by omega) (by omega)]; omega
    rw [e1, ih (i + 1) (x3 ++ block (rd l i)) k (by omega) (by simp [block]; omega) (by omega)]
    have e2 : l.drop i = rd l i :: l.drop (i + 1) := by
      rw [List.drop_eq_getElem_cons (by omega)]
      congr 1
      simp only [rd, Int.toNat_natCast, List.getD_eq_getElem?_getD]
      rw [List.getElem?_eq_getElem (by omega)]
      rfl
    rw [e2, List.flatMap_cons, List.append_assoc]

theorem w_tm (i : Nat) : Int.tmod (i : Int) 4 = ((i % 4 : Nat) : Int) := by rw [Int.tmod_eq_emod_of_nonneg (by omega)]; omega
theorem w_td (i : Nat) : Int.tdiv (i : Int) 4 = ((i / 4 : Nat) : Int) := by rw [Int.tdiv_eq_ediv_of_nonneg (by omega)]; omega
theorem w_2 (i : Nat) (h : i ≤ 100000) : wrap64 ((i / 4 : Nat) : Int) = ((i / 4 : Nat) : Int) := w64 (by omega) (by omega)
theorem w_3 (i : Nat) : wrap64 (16 * ((i % 4 : Nat) : Int)) = 16 * ((i % 4 : Nat) : Int) := w64 (by omega) (by omega)
theorem w_1 (i : Nat) (h : i ≤ 100000) : wrap64 ((i : Int) + 1) = ((i + 1 : Nat) : Int) := by rw [w64 (by omega) (by omega)]; omega

theorem words_step (d x3 : List Int) (hd : d.length ≤ 100000) (i k : Nat) (hi : i < d.length) (h3 : x3.length = (i + 3) / 4) :
    ∃ y, spec_Words.l0 (k + 1) x3 d (d.length : Int) (i : Int) = spec_Words.l0 k y d (d.length : Int) ((i + 1 : Nat) : Int) ∧ y.length = (i + 1 + 3) / 4 := by
  have a1 : (i : Int) < (d.length : Int) := by omega
  have a2 : (0 : Int) ≤ (i : Int) := by omega
  have a4 : x3.length < 17592186044416 := by omega
  have a5 : (0 : Int) ≤ ((i / 4 : Nat) : Int) := by omega
  have a6 : (0 : Int) ≤ 16 * ((i % 4 : Nat) : Int) := by omega
  by_cases h0 : i % 4 = 0
  · have a3 : ((i % 4 : Nat) : Int) = 0 := by omega
    have a7 : ((i / 4 : Nat) : Int) < ((x3 ++ [0]).length : Int) := by rw [List.length_append, List.length_singleton]; omega
    have a8 : (x3 ++ [0]).length = (i + 1 + 3) / 4 := by rw [List.length_append, List.length_singleton]; omega
    refine ⟨?w, ?q, ?l⟩
    case q =>
      simp only [spec_Words.l0, if_pos a1, if_pos a2, w_tm, w_td, w_2 i (by omega), w_3, w_1 i (by omega), if_pos a3, if_pos a4, Option.bind_some, if_pos a5, if_pos a6, if_pos a7]
      exact rfl
    case l => rw [List.length_set]; exact a8
  · have a3 : ¬ ((i % 4 : Nat) : Int) = 0 := by omega
    have a7 : ((i / 4 : Nat) : Int) < (x3.length : Int) := by omega
    have a8 : x3.length = (i + 1 + 3) / 4 := by omega
    refine ⟨?w2, ?q2, ?l2⟩
    case q2 =>
      simp only [spec_Words.l0, if_pos a1, if_pos a2, w_tm, w_td, w_2 i (by omega), w_3, w_1 i (by omega), if_neg a3, if_pos a5, if_pos a6, if_pos a7]
      exact rfl
    case l2 => rw [List.length_set]; exact a8

theorem words_some (d : List Int) (hd : d.length ≤ 100000) : ∀ (m i : Nat) (x3 : List Int) (k : Nat), m + i = d.length → x3.length = (i + 3) / 4 → m < k → ∃ out, spec_Words.l0 k x3 d (d.length : Int) (i : Int) = some out ∧ out.length = (d.length + 3) / 4 := by
  intro m
  induction m with
  | zero =>
    intro i x3 k hi h3 hk
    obtain ⟨k, rfl⟩ : ∃ j, k = j + 1 := ⟨k - 1, by omega⟩
    refine ⟨x3, ?_, by rw [h3]; congr 2; omega⟩
    rw [spec_Words.l0, if_neg (by omega)]
  | succ m ih =>
    intro i x3 k hi h3 hk
    obtain ⟨k, rfl⟩ : ∃ j, k = j + 1 := ⟨k - 1, by omega⟩
    obtain ⟨y, q1, q2⟩ := words_step d x3 hd i k (by omega) h3
    rw [q1]
    exact ih (i + 1) y k (by omega) q2 (by omega)

theorem has_loop (x t : List Int) (hl : x.length = t.length) (ht : t.length ≤ 100000) : ∀ (m i : Nat) (k : Nat), m + i = t.length → m < k → ∃ b, spec_HasWords.l0 k x t (t.length : Int) (i : Int) = some b := by
  intro m
  induction m with
  | zero =>
    intro i k hi hk
    obtain ⟨k, rfl⟩ : ∃ j, k = j + 1 := ⟨k - 1, by omega⟩
    exact ⟨true, by rw [spec_HasWords.l0, if_neg (by omega)]⟩
  | succ m ih =>
    intro i k hi hk
    obtain ⟨k, rfl⟩ : ∃ j, k = j + 1 := ⟨k - 1, by omega⟩
    have e1 : wrap64 ((i : Int) + 1) = ((i + 1 : Nat) : Int) := by rw [w64 (by omega) (by omega)]; omega
    rw [spec_HasWords.l0, if_pos (by omega), if_pos (by omega), if_pos (by omega), if_pos (by omega), e1]
    by_cases h : rd x i = rd t i
    · rw [if_pos h]; exact ih (i + 1) k (by omega) (by omega)
    · rw [if_neg h]; exact ⟨false, rfl⟩
theorem has_some (x d : List Int) (hd : d.length ≤ 100000) (k : Nat) (hk : 2 * d.length + 1 < k) : ∃ b, spec_HasWords.f k x d = some b ∧ (b = true → x.length = (d.length + 3) / 4) := by
  obtain ⟨out, ho, hl⟩ := words_some d hd d.length 0 [] k (by omega) (by simp) (by omega)
  have e : spec_Words.f k d = some out := ho
  rw [spec_HasWords.f, e]
  simp only [Option.bind_some]
  by_cases h : (x.length : Int) = (out.length : Int)
  · rw [if_pos h]
    obtain ⟨b, hb⟩ := has_loop x out (by omega) (by omega) out.length 0 k (by omega) (by omega)
    exact ⟨b, hb, fun _ => by omega⟩
  · rw [if_neg h]
    exact ⟨false, rfl, fun h => by cases h⟩

theorem fig_zero (j : Int) : fig 0 j = 0 := by
  have : shr .u64 0 (16 * j) = 0 := by simp [shr]
  rw [fig, this]
  decide +kernel
theorem nlTo_zeros (l : List Int) (a : Nat) : ∀ b, a ≤ b → (∀ j, a ≤ j → j < b → l.getD j 0 = 0) → nlTo l b ≤ a := by
  intro b
  induction b with
  | zero => intro _ _; simp [nlTo]
  | succ b ih =>
    intro hab h
    by_cases e : a = b + 1
    · rw [e]; exact nlTo_le l _
    · rw [nlTo, if_pos (h b (by omega) (by omega))]
      exact ih (by omega) (fun j h1 h2 => h j h1 (by omega))
theorem flat_len (l : List Int) : (l.flatMap block).length = 4 * l.length := by
  induction l with
  | nil => rfl
  | cons x l ih => simp only [List.flatMap_cons, List.length_append, ih, List.length_cons, block, List.length_nil]; omega

/-- where the last word is a nought the figures are too few -/
theorem last_nought (l : List Int) (x : Int) (hx : x = 0) : nlTo ((l ++ [x]).flatMap block) (4 * (l ++ [x]).length) ≤ 4 * l.length := by
  subst hx
  refine nlTo_zeros _ _ _ (by simp; omega) ?_
  intro j h1 h2
  rw [List.flatMap_append, List.getD_eq_getElem?_getD, List.getElem?_append_right (by rw [flat_len]; exact h1), flat_len, ← List.getD_eq_getElem?_getD]
  simp only [List.length_append, List.length_cons, List.length_nil] at h2
  obtain ⟨i, rfl⟩ : ∃ i, j = 4 * l.length + i := ⟨j - 4 * l.length, by omega⟩
  have hi : i < 4 := by omega
  rw [Nat.add_sub_cancel_left]
  have hb : [0].flatMap block = [fig 0 0, fig 0 1, fig 0 2, fig 0 3] := rfl
  rw [hb]
  match i, hi with
  | 0, _ => exact fig_zero 0
  | 1, _ => exact fig_zero 1
  | 2, _ => exact fig_zero 2
  | 3, _ => exact fig_zero 3

theorem ofdec_some (f : Int) (neg : Bool) (l : List Int) (e : Int) (hl : l.length ≤ 1000) : ∃ k d b, spec_OfDec.f k f neg l e = some (neg, d, e, b) ∧ (b = true → f = 0 ∧ nlTo l l.length = l.length) := by
  have hk : 6 * l.length + 4 * l.length + 2 < 20000 := by omega
  have hof := of_some l hl l.length 0 [] 20000 (by omega) rfl hk
  simp only [List.nil_append, List.drop_zero] at hof
  obtain ⟨D, hD⟩ : ∃ D, D = (l.flatMap block).take (nlTo (l.flatMap block) (4 * l.length)) := ⟨_, rfl⟩
  have hDl : D.length = nlTo (l.flatMap block) (4 * l.length) := by
    rw [hD, List.length_take, flat_len, Nat.min_eq_left (nlTo_le _ _)]
  have hDle : D.length ≤ 4 * l.length := by rw [hDl]; exact nlTo_le _ _
  rw [← hD] at hof
  have ef : spec_Of.f 20000 l = some D := hof
  refine ⟨20000, D, ?_⟩
  rw [spec_OfDec.f, ef]
  simp only [Option.bind_some]
  by_cases h0 : f = 0
  · rw [if_pos h0]
    obtain ⟨b, hb, hbt⟩ := has_some l D (by omega) 20000 (by omega)
    rw [hb]
    refine ⟨b, rfl, fun h => ⟨h0, ?_⟩⟩
    have hlen := hbt h
    rcases List.eq_nil_or_concat l with rfl | ⟨l', x, rfl⟩
    · rfl
    · have hx : ¬ x = 0 := by
        intro hx
        have := last_nought l' x hx
        simp only [List.concat_eq_append] at hlen hDl this ⊢
        simp only [List.length_append, List.length_cons, List.length_nil] at *
        omega
      simp only [List.concat_eq_append, List.length_append, List.length_cons, List.length_nil]
      have hg : (l' ++ [x]).getD l'.length 0 = x := by simp
      show nlTo (l' ++ [x]) (l'.length + 1) = l'.length + 1
      rw [nlTo, hg, if_neg hx]
  · rw [if_neg h0]
    exact ⟨false, rfl, fun h => by cases h⟩
end Go.Proofs.YtdfcomilhjoooaaGreatDoor.Spec
