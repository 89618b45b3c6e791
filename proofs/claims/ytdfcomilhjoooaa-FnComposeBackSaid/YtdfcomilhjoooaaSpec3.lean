/- Plain laws of the printed functions Words and HasWords, by value. -/
import Derived.Test.YtdfcomilhjoooaaSpec2
namespace Go.Proofs.Ytdfcomilhjoooaa.Spec3
open Go.RowKit Go.Proofs.YtdfcomilhjoooaaW.PrintWords Go.Proofs.YtdfcomilhjoooaaW.PrintLast Go.Proofs.YtdfcomilhjoooaaW.PrintMore Go.Proofs.Ytdfcomilhjoooaa.POfDec Go.Proofs.Ytdfcomilhjoooaa.Base Go.Proofs.Ytdfcomilhjoooaa.Num
open Go.Proofs.Ytdfcomilhjoooaa.Spec (w64 nlTo_take w_tm w_td w_2 w_3 w_1)
open Go.Proofs.Ytdfcomilhjoooaa.Spec2 (wrapU)

theorem bits_or {a b : Nat} (ha : a < 2 ^ 64) (hb : b < 2 ^ 64) : Go.bits .or .u64 (a : Int) (b : Int) = ((a ||| b : Nat) : Int) := by
  have h : a ||| b < 2 ^ 64 := Nat.or_lt_two_pow ha hb
  have e : (BitVec.ofInt IntKind.u64.bits (a : Int) ||| BitVec.ofInt IntKind.u64.bits (b : Int)).toNat = a ||| b := by
    rw [BitVec.toNat_or, BitVec.toNat_ofInt, BitVec.toNat_ofInt]
    have e1 : ((a : Int) % ((2 ^ IntKind.u64.bits : Nat) : Int)).toNat = a := by
      rw [Int.emod_eq_of_lt (by omega) (by exact Int.ofNat_lt.2 ha)]; omega
    have e2 : ((b : Int) % ((2 ^ IntKind.u64.bits : Nat) : Int)).toNat = b := by
      rw [Int.emod_eq_of_lt (by omega) (by exact Int.ofNat_lt.2 hb)]; omega
    rw [e1, e2]
  show IntKind.u64.wrap (((BitVec.ofInt IntKind.u64.bits (a : Int) ||| BitVec.ofInt IntKind.u64.bits (b : Int)).toNat : Nat) : Int) = _
  rw [e]
  exact wrapU (by omega) (by omega)
/-- one figure more -/
theorem or_shl {w x : Int} {s : Nat} (hs : s ≤ 63) (hw0 : 0 ≤ w) (hw : w < 2 ^ s) (hx0 : 0 ≤ x) (hx : x * 2 ^ s < 2 ^ 64) : Go.bits .or .u64 w (shl .u64 x (s : Int)) = w + x * 2 ^ s := by
  obtain ⟨a, rfl⟩ := Int.eq_ofNat_of_zero_le hw0
  obtain ⟨b, rfl⟩ := Int.eq_ofNat_of_zero_le hx0
  have ha : a < 2 ^ s := by exact_mod_cast hw
  have hb : b * 2 ^ s < 2 ^ 64 := by exact_mod_cast hx
  have e : shl .u64 (b : Int) (s : Int) = ((b * 2 ^ s : Nat) : Int) := by
    show IntKind.u64.wrap ((b : Int) * 2 ^ min ((s : Int).toNat) IntKind.u64.bits) = _
    rw [Int.toNat_natCast, Nat.min_eq_left (show s ≤ IntKind.u64.bits from by simp [IntKind.bits]; omega)]
    have e1 : (b : Int) * 2 ^ s = ((b * 2 ^ s : Nat) : Int) := by push_cast; rfl
    rw [e1]
    exact wrapU (by omega) (by omega)
  have h2 : (2 : Nat) ^ s ≤ 2 ^ 63 := Nat.pow_le_pow_right (by decide) hs
  rw [e, bits_or (by omega) hb]
  have := Nat.two_pow_add_eq_or_of_lt ha b
  have e3 : a ||| b * 2 ^ s = a + b * 2 ^ s := by rw [Nat.or_comm, Nat.mul_comm b, ← this, Nat.add_comm]
  rw [e3]; push_cast; rfl

/-- what stands before round i -/
def St (d : List Int) (i : Nat) (o : List Int) : Prop :=
  Dig (2 ^ 64) o ∧ o.length = (i + 3) / 4 ∧ val (2 ^ 64) o = val 65536 (d.take i) ∧ (i % 4 ≠ 0 → o.getD (i / 4) 0 < 65536 ^ (i % 4)) ∧ (0 < i → d.getD (i - 1) 0 ≠ 0 → Nrm o)
theorem pow_parts (i : Nat) : ((2 : Int) ^ 64) ^ (i / 4) * 65536 ^ (i % 4) = 65536 ^ i := by
  have e : (2 : Int) ^ 64 = 65536 ^ 4 := by decide
  rw [e, ← Int.pow_mul, ← Int.pow_add]
  congr 1; omega
theorem getD_last (p : List Int) (w : Int) : (p ++ [w]).getD p.length 0 = w := by simp
theorem set_last (p : List Int) (w z : Int) : (p ++ [w]).set p.length z = p ++ [z] := by simp
/-- the words with room for the figure i -/
theorem St.open_ {d : List Int} {i : Nat} {o : List Int} (h : St d i o) : ∃ p w, (if i % 4 = 0 then o ++ [0] else o) = p ++ [w] ∧ p.length = i / 4 ∧ Dig (2 ^ 64) p ∧ 0 ≤ w ∧ w < 65536 ^ (i % 4) ∧ val (2 ^ 64) p + (2 ^ 64) ^ (i / 4) * w = val 65536 (d.take i) := by
  obtain ⟨h1, h2, h3, h4, _⟩ := h
  by_cases h0 : i % 4 = 0
  · rw [if_pos h0, h0]
    exact ⟨o, 0, rfl, by omega, h1, by omega, by decide, by rw [Int.mul_zero, Int.add_zero]; exact h3⟩
  · rw [if_neg h0]
    rcases List.eq_nil_or_concat o with rfl | ⟨p, w, rfl⟩
    · simp at h2; omega
    · rw [List.concat_eq_append] at *
      have hp : p.length = i / 4 := by simp at h2; omega
      have hw := h1 w (by simp)
      have hlt := h4 h0
      rw [← hp, getD_last] at hlt
      rw [val_snoc, hp] at h3
      exact ⟨p, w, rfl, hp, fun y hy => h1 y (by simp [hy]), hw.1, hlt, h3⟩
theorem fig_small {i : Nat} {x : Int} (hx0 : 0 ≤ x) (hx : x < 65536) : x * 2 ^ (16 * (i % 4)) < 2 ^ 64 ∧ ((2 : Int) ^ (16 * (i % 4))) = 65536 ^ (i % 4) := by
  have h : i % 4 < 4 := Nat.mod_lt _ (by decide)
  generalize i % 4 = r at h ⊢
  match r, h with
  | 0, _ => exact ⟨by omega, rfl⟩
  | 1, _ => exact ⟨by omega, rfl⟩
  | 2, _ => exact ⟨by omega, rfl⟩
  | 3, _ => exact ⟨by omega, rfl⟩
theorem fit_next {i : Nat} {x w : Int} (hw0 : 0 ≤ w) (hw : w < 65536 ^ (i % 4)) (hx0 : 0 ≤ x) (hx : x < 65536) : w + x * 65536 ^ (i % 4) < 2 ^ 64 ∧ ((i + 1) % 4 ≠ 0 → w + x * 65536 ^ (i % 4) < 65536 ^ ((i + 1) % 4)) ∧ 0 ≤ w + x * 65536 ^ (i % 4) ∧ (x ≠ 0 → w + x * 65536 ^ (i % 4) ≠ 0) := by
  have h : i % 4 < 4 := Nat.mod_lt _ (by decide)
  have e : (i + 1) % 4 = (i % 4 + 1) % 4 := by omega
  rw [e]
  generalize i % 4 = r at h hw ⊢
  match r, h with
  | 0, _ => exact ⟨by omega, fun _ => (by simp at hw ⊢; omega), by omega, by omega⟩
  | 1, _ => exact ⟨by omega, fun _ => (by simp at hw ⊢; omega), by omega, by omega⟩
  | 2, _ => exact ⟨by omega, fun _ => (by simp at hw ⊢; omega), by omega, by omega⟩
  | 3, _ => exact ⟨by omega, fun h => absurd rfl h, by omega, by omega⟩

theorem words_step (d o : List Int) (hdd : Dig 65536 d) (hd : d.length ≤ 100000) (i k : Nat) (hi : i < d.length) (h : St d i o) :
    ∃ y, spec_Words.l0 (k + 1) o d (d.length : Int) (i : Int) = spec_Words.l0 k y d (d.length : Int) ((i + 1 : Nat) : Int) ∧ St d (i + 1) y := by
  obtain ⟨p, w, ho, hp, hdp, hw0, hw, hv⟩ := h.open_
  have hol : o.length = (i + 3) / 4 := h.2.1
  obtain ⟨x, hx⟩ : ∃ x, x = d.getD i 0 := ⟨_, rfl⟩
  have hxr := hdd.getD (by decide) i
  rw [← hx] at hxr
  obtain ⟨f1, f2⟩ := fig_small (i := i) hxr.1 hxr.2
  obtain ⟨n1, n2, n3, n4⟩ := fit_next (i := i) hw0 hw hxr.1 hxr.2
  have hor : Go.bits .or .u64 w (shl .u64 x (16 * ((i % 4 : Nat) : Int))) = w + x * 65536 ^ (i % 4) := by
    have := or_shl (s := 16 * (i % 4)) (by omega) hw0 (by rw [f2]; exact hw) hxr.1 f1
    rw [f2] at this
    have e : ((16 * (i % 4) : Nat) : Int) = 16 * ((i % 4 : Nat) : Int) := by push_cast; rfl
    rwa [e] at this
  have hst : St d (i + 1) (p ++ [w + x * 65536 ^ (i % 4)]) := by
    refine ⟨hdp.app (Dig.one n3 n1), by simp; omega, ?_, fun h0 => ?_, fun _ hne => ?_⟩
    · rw [val_snoc, hp, val_take, ← hx, ← pow_parts i]
      rw [← hv]
      generalize ((2 : Int) ^ 64) ^ (i / 4) = P
      generalize (65536 : Int) ^ (i % 4) = Q
      generalize val (2 ^ 64) p = vp
      grind
    · have e4 : (i + 1) / 4 = i / 4 := by omega
      rw [e4, ← hp, getD_last]
      exact n2 h0
    · have e1 : i + 1 - 1 = i := by omega
      rw [e1, ← hx] at hne
      have := n4 hne
      simpa [Nrm] using this
  refine ⟨_, ?_, hst⟩
  have a1 : (i : Int) < (d.length : Int) := by omega
  have a2 : (0 : Int) ≤ (i : Int) := by omega
  have a4 : o.length < 17592186044416 := by omega
  have a5 : (0 : Int) ≤ ((i / 4 : Nat) : Int) := by omega
  have a6 : (0 : Int) ≤ 16 * ((i % 4 : Nat) : Int) := by omega
  have b5 : i ≤ 100000 := by omega
  have a7 : ((i / 4 : Nat) : Int) < ((p ++ [w]).length : Int) := by simp; omega
  have erd : rd d (i : Int) = x := by rw [hx]; simp [rd]
  have erw : rd (p ++ [w]) ((i / 4 : Nat) : Int) = w := by simp only [rd, Int.toNat_natCast]; rw [← hp]; exact getD_last p w
  have ewx : IntKind.u64.wrap x = x := wrapU hxr.1 (by omega)
  have eset : (p ++ [w]).set (i / 4) (w + x * 65536 ^ (i % 4)) = p ++ [w + x * 65536 ^ (i % 4)] := by rw [← hp]; exact set_last p w _
  rw [← eset]
  by_cases h0 : i % 4 = 0
  · rw [if_pos h0] at ho
    have a3 : ((i % 4 : Nat) : Int) = 0 := by omega
    rw [← ho] at erw a7 ⊢
    simp only [spec_Words.l0, if_pos a1, if_pos a2, w_tm, w_td, w_2 i b5, w_3, w_1 i b5, if_pos a3, if_pos a4, Option.bind_some, if_pos a5, if_pos a6, if_pos a7, erd, erw, ewx, hor, Int.toNat_natCast]
  · rw [if_neg h0] at ho
    have a3 : ¬ ((i % 4 : Nat) : Int) = 0 := by omega
    rw [← ho] at erw a7 ⊢
    simp only [spec_Words.l0, if_pos a1, if_pos a2, w_tm, w_td, w_2 i b5, w_3, w_1 i b5, if_neg a3, if_pos a5, if_pos a6, if_pos a7, erd, erw, ewx, hor, Int.toNat_natCast]

theorem words_loop (d : List Int) (hdd : Dig 65536 d) (hd : d.length ≤ 100000) : ∀ (m i : Nat) (o : List Int) (k : Nat), m + i = d.length → St d i o → m < k → ∃ out, spec_Words.l0 k o d (d.length : Int) (i : Int) = some out ∧ St d d.length out := by
  intro m
  induction m with
  | zero =>
    intro i o k hi h hk
    obtain ⟨k, rfl⟩ : ∃ j, k = j + 1 := ⟨k - 1, by omega⟩
    obtain rfl : i = d.length := by omega
    exact ⟨o, by rw [spec_Words.l0, if_neg (by omega)], h⟩
  | succ m ih =>
    intro i o k hi h hk
    obtain ⟨k, rfl⟩ : ∃ j, k = j + 1 := ⟨k - 1, by omega⟩
    obtain ⟨y, q1, q2⟩ := words_step d o hdd hd i k (by omega) h
    rw [q1]
    exact ih (i + 1) y k (by omega) q2 (by omega)
theorem nrm_last {d : List Int} (h : Nrm d) (h0 : 0 < d.length) : d.getD (d.length - 1) 0 ≠ 0 := by
  rcases List.eq_nil_or_concat d with rfl | ⟨p, x, rfl⟩
  · simp at h0
  · intro e
    apply h
    simp at e ⊢
    exact e
theorem words_law (d : List Int) (V : Int) (h : Rep 65536 d V) (hd : d.length ≤ 100000) (k : Nat) (hk : d.length < k) : ∃ out, spec_Words.f k d = some out ∧ Rep (2 ^ 64) out V := by
  obtain ⟨out, h1, h2, h3, h4, _, h6⟩ := words_loop d h.1 hd d.length 0 [] k (by omega) ⟨fun _ h => (by cases h), rfl, rfl, fun h => absurd rfl h, fun h => absurd h (by omega)⟩ hk
  rw [List.take_length] at h4
  refine ⟨out, h1, h2, ?_, h4.trans h.2.2⟩
  rcases Nat.eq_zero_or_pos d.length with h0 | h0
  · have : out = [] := List.eq_nil_of_length_eq_zero (by rw [h3, h0])
    rw [this]; simp [Nrm]
  · exact h6 h0 (nrm_last h.2.1 h0)

theorem has_same (t : List Int) (ht : t.length ≤ 100000) : ∀ (m i : Nat) (k : Nat), m + i = t.length → m < k → spec_HasWords.l0 k t t (t.length : Int) (i : Int) = some true := by
  intro m
  induction m with
  | zero =>
    intro i k hi hk
    obtain ⟨k, rfl⟩ : ∃ j, k = j + 1 := ⟨k - 1, by omega⟩
    rw [spec_HasWords.l0, if_neg (by omega)]
  | succ m ih =>
    intro i k hi hk
    obtain ⟨k, rfl⟩ : ∃ j, k = j + 1 := ⟨k - 1, by omega⟩
    have c1 : (i : Int) < (t.length : Int) := by omega
    have c2 : (0 : Int) ≤ (i : Int) := by omega
    have c3 : i ≤ 100000 := by omega
    simp only [spec_HasWords.l0, if_pos c1, if_pos c2, w_1 i c3, if_true]
    exact ih (i + 1) k (by omega) (by omega)
theorem has_law (x d : List Int) (V : Int) (h : Rep 65536 d V) (hx : Rep (2 ^ 64) x V) (hd : d.length ≤ 10000) (k : Nat) (hk : 30000 ≤ k) : spec_HasWords.f k x d = some true := by
  obtain ⟨out, h1, h2⟩ := words_law d V h (by omega) k (by omega)
  obtain rfl := hx.uniq (by decide) h2
  obtain ⟨out', h3, h4⟩ := Spec.words_some d (by omega) d.length 0 [] k (by omega) (by simp) (by omega)
  have : x = out' := Option.some.inj (h1.symm.trans h3)
  rw [spec_HasWords.f, h1]
  simp only [Option.bind_some, if_true]
  exact has_same x (by rw [this, h4]; omega) x.length 0 k (by omega) (by rw [this, h4]; omega)
end Go.Proofs.Ytdfcomilhjoooaa.Spec3
