/- Natural numbers by their digits: value, range, no nought at the end; two such lists of one value are one. No program. -/
import Derived.Test.YtdfcomilhjoooaaGreatDoorSpec1
namespace Go.Proofs.YtdfcomilhjoooaaGreatDoor.Num
open Go.RowKit Go.Proofs.YtdfcomilhjoooaaGreatDoorW.PrintWords Go.Proofs.YtdfcomilhjoooaaGreatDoor.Base

def val (B : Int) : List Int → Int
  | [] => 0
  | x :: l => x + B * val B l
def Dig (B : Int) (l : List Int) : Prop := ∀ x ∈ l, 0 ≤ x ∧ x < B
def Nrm (l : List Int) : Prop := l.getLast? ≠ some 0
def Rep (B : Int) (l : List Int) (V : Int) : Prop := Dig B l ∧ Nrm l ∧ val B l = V

theorem Dig.tail {B x : Int} {l : List Int} (h : Dig B (x :: l)) : Dig B l := fun y hy => h y (List.mem_cons_of_mem _ hy)
theorem Dig.head {B x : Int} {l : List Int} (h : Dig B (x :: l)) : 0 ≤ x ∧ x < B := h x List.mem_cons_self
theorem Dig.app {B : Int} {a b : List Int} (ha : Dig B a) (hb : Dig B b) : Dig B (a ++ b) := fun y hy => (List.mem_append.1 hy).elim (ha y) (hb y)
theorem Dig.one {B x : Int} (h0 : 0 ≤ x) (h1 : x < B) : Dig B [x] := fun y hy => by obtain rfl := List.mem_singleton.1 hy; exact ⟨h0, h1⟩
theorem Dig.take {B : Int} {l : List Int} (h : Dig B l) (n : Nat) : Dig B (l.take n) := fun y hy => h y (List.mem_of_mem_take hy)
theorem Dig.getD {B : Int} (hB : 0 < B) {l : List Int} (h : Dig B l) (i : Nat) : 0 ≤ l.getD i 0 ∧ l.getD i 0 < B := by
  rcases Nat.lt_or_ge i l.length with hi | hi
  · have e : l.getD i 0 = l[i] := by simp [List.getD_eq_getElem?_getD, hi]
    rw [e]; exact h _ (List.getElem_mem hi)
  · have e : l.getD i 0 = 0 := by simp [List.getD_eq_getElem?_getD, List.getElem?_eq_none hi]
    rw [e]; exact ⟨Int.le_refl _, hB⟩

theorem Nrm.tail {x : Int} {l : List Int} (h : Nrm (x :: l)) : Nrm l := by
  cases l with
  | nil => simp [Nrm]
  | cons y l => simpa [Nrm, List.getLast?_cons_cons] using h
theorem val_nonneg {B : Int} (hB : 0 < B) : ∀ {l : List Int}, Dig B l → 0 ≤ val B l
  | [], _ => Int.le_refl _
  | x :: l, h => by
    have h1 := h.head
    have h2 := Int.mul_nonneg (Int.le_of_lt hB) (val_nonneg hB h.tail)
    simp only [val]; omega
theorem val_pos {B : Int} (hB : 0 < B) : ∀ {l : List Int}, Dig B l → Nrm l → l ≠ [] → 0 < val B l
  | [], _, _, h => absurd rfl h
  | [x], h, hn, _ => by
    have h1 := h.head
    have : x ≠ 0 := by intro e; exact hn (by simp [e])
    simp only [val]; omega
  | x :: y :: l, h, hn, _ => by
    have h1 := h.head
    have h2 := Int.mul_pos hB (val_pos hB h.tail hn.tail (by simp))
    simp only [val] at h2 ⊢; omega
theorem split_eq {B x y v v' : Int} (hx : 0 ≤ x ∧ x < B) (hy : 0 ≤ y ∧ y < B) (h : x + B * v = y + B * v') : x = y ∧ v = v' := by
  have hB : 0 < B := by omega
  rcases Int.lt_trichotomy v v' with h1 | h1 | h1
  · have := Int.mul_le_mul_of_nonneg_left (show v + 1 ≤ v' by omega) (Int.le_of_lt hB)
    rw [Int.mul_add, Int.mul_one] at this; omega
  · subst h1; exact ⟨by omega, rfl⟩
  · have := Int.mul_le_mul_of_nonneg_left (show v' + 1 ≤ v by omega) (Int.le_of_lt hB)
    rw [Int.mul_add, Int.mul_one] at this; omega
theorem uniq {B : Int} (hB : 0 < B) : ∀ {l l' : List Int}, Dig B l → Nrm l → Dig B l' → Nrm l' → val B l = val B l' → l = l'
  | [], [], _, _, _, _, _ => rfl
  | [], y :: l', _, _, h, hn, e => by have := val_pos hB h hn (by simp); simp only [val] at e this; omega
  | x :: l, [], h, hn, _, _, e => by have := val_pos hB h hn (by simp); simp only [val] at e this; omega
  | x :: l, y :: l', h, hn, h', hn', e => by
    obtain ⟨e1, e2⟩ := split_eq h.head h'.head e
    rw [e1, uniq hB h.tail hn.tail h'.tail hn'.tail e2]
theorem Rep.uniq {B V : Int} (hB : 0 < B) {l l' : List Int} (h : Rep B l V) (h' : Rep B l' V) : l = l' := Num.uniq hB h.1 h.2.1 h'.1 h'.2.1 (h.2.2.trans h'.2.2.symm)

theorem val_app (B : Int) : ∀ a b : List Int, val B (a ++ b) = val B a + B ^ a.length * val B b
  | [], b => by simp [val]
  | x :: a, b => by
    simp only [List.cons_append, val, val_app B a b, List.length_cons, Int.pow_succ]
    grind
theorem val_snoc (B : Int) (a : List Int) (x : Int) : val B (a ++ [x]) = val B a + B ^ a.length * x := by
  rw [val_app]; simp [val]
theorem take_succ (l : List Int) (n : Nat) (h : n < l.length) : l.take (n + 1) = l.take n ++ [l.getD n 0] := by
  rw [List.take_succ_eq_append_getElem h]; simp [List.getD_eq_getElem?_getD, h]
theorem val_take (B : Int) (l : List Int) (i : Nat) : val B (l.take (i + 1)) = val B (l.take i) + B ^ i * l.getD i 0 := by
  rcases Nat.lt_or_ge i l.length with h | h
  · rw [take_succ l i h, val_snoc, List.length_take, Nat.min_eq_left (Nat.le_of_lt h)]
  · rw [List.take_of_length_le h, List.take_of_length_le (Nat.le_succ_of_le h), List.getD_eq_getElem?_getD, List.getElem?_eq_none h]; simp

theorem nrm_nlTo (l : List Int) : ∀ n, n ≤ l.length → Nrm (l.take (nlTo l n))
  | 0, _ => by simp [nlTo, Nrm]
  | n + 1, h => by
    by_cases h0 : l.getD n 0 = 0
    · rw [nlTo, if_pos h0]; exact nrm_nlTo l n (by omega)
    · rw [nlTo, if_neg h0, take_succ l n (by omega)]
      simpa [Nrm] using h0
theorem val_nlTo (B : Int) (l : List Int) : ∀ n, n ≤ l.length → val B (l.take (nlTo l n)) = val B (l.take n)
  | 0, _ => by simp [nlTo]
  | n + 1, h => by
    by_cases h0 : l.getD n 0 = 0
    · rw [nlTo, if_pos h0, val_nlTo B l n (by omega), val_take, h0, Int.mul_zero, Int.add_zero]
    · rw [nlTo, if_neg h0]
theorem rep_trim {B : Int} {l : List Int} (h : Dig B l) : Rep B (l.take (nlTo l l.length)) (val B l) :=
  ⟨h.take _, nrm_nlTo l _ (Nat.le_refl _), by rw [val_nlTo B l _ (Nat.le_refl _), List.take_length]⟩
theorem nlTo_of_nrm {l : List Int} (h : Nrm l) : nlTo l l.length = l.length := by
  rcases List.eq_nil_or_concat l with rfl | ⟨l', x, rfl⟩
  · rfl
  · have hx : ¬ x = 0 := by intro e; exact h (by simp [e])
    have hg : (l' ++ [x]).getD l'.length 0 = x := by simp
    simp only [List.concat_eq_append, List.length_append, List.length_cons, List.length_nil]
    show nlTo (l' ++ [x]) (l'.length + 1) = l'.length + 1
    rw [nlTo, hg, if_neg hx]
theorem nrm_of_nlTo {l : List Int} (h : nlTo l l.length = l.length) : Nrm l := by
  have := nrm_nlTo l l.length (Nat.le_refl _)
  rwa [h, List.take_length] at this
end Go.Proofs.YtdfcomilhjoooaaGreatDoor.Num
