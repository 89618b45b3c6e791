/- Plain laws of the printed functions trim, Small, Shl by eight bits, Add: what they give, by value. -/
import Derived.Test.YtdfcomilhjoooaaNum
import Derived.Test.YtdfcomilhjoooaaPFnComposex1
namespace Go.Proofs.Ytdfcomilhjoooaa.Spec2
open Go.RowKit Go.Proofs.YtdfcomilhjoooaaW.PrintWords Go.Proofs.YtdfcomilhjoooaaW.PrintLast Go.Proofs.YtdfcomilhjoooaaW.PrintMore Go.Proofs.Ytdfcomilhjoooaa.PFnCompose Go.Proofs.Ytdfcomilhjoooaa.Base Go.Proofs.Ytdfcomilhjoooaa.Num
open Go.Proofs.Ytdfcomilhjoooaa.Spec (w64 nlTo_take)

theorem trim_some : ∀ (n : Nat) (l : List Int) (k : Nat), l.length = n → n ≤ 1000000 → n < k → spec_trim.l0 k l = some (l.take (nlTo l l.length)) := by
  intro n
  induction n with
  | zero =>
    intro l k hl _ hk
    obtain ⟨k, rfl⟩ : ∃ j, k = j + 1 := ⟨k - 1, by omega⟩
    obtain rfl : l = [] := List.eq_nil_of_length_eq_zero hl
    rfl
  | succ n ih =>
    intro l k hl hn hk
    obtain ⟨k, rfl⟩ : ∃ j, k = j + 1 := ⟨k - 1, by omega⟩
    have e : wrap64 ((l.length : Int) - 1) = n := by rw [hl, w64 (by omega) (by omega)]; omega
    simp only [spec_trim.l0, e]
    rw [if_pos (by omega), if_pos (by omega), if_pos (by omega)]
    have er : rd l (n : Int) = l.getD n 0 := by simp [rd]
    rw [er]
    by_cases h0 : l.getD n 0 = 0
    · rw [if_pos h0, if_pos (by omega)]
      have et : ((n : Int)).toNat = n := by omega
      rw [et]
      have hlt : (l.take n).length = n := by simp; omega
      rw [ih (l.take n) k hlt (by omega) (by omega), hlt, nlTo_take l n n (Nat.le_refl _), List.take_take, Nat.min_eq_left (nlTo_le l n), hl, nlTo, if_pos h0]
    · rw [if_neg h0, hl, nlTo, if_neg h0, ← hl, List.take_length]
theorem trim_len (l : List Int) : (l.take (nlTo l l.length)).length ≤ l.length := by rw [List.length_take]; omega
theorem trim_is : ∀ (k : Nat) (l r : List Int), l.length ≤ 1000000 → spec_trim.l0 k l = some r → r = l.take (nlTo l l.length) := by
  intro k
  induction k with
  | zero => intro l r _ h; cases h
  | succ k ih =>
    intro l r hl h
    rcases Nat.eq_zero_or_pos l.length with h0 | h0
    · obtain rfl : l = [] := List.eq_nil_of_length_eq_zero h0
      cases h; rfl
    · obtain ⟨n, hn⟩ : ∃ n, l.length = n + 1 := ⟨l.length - 1, by omega⟩
      have e : wrap64 ((l.length : Int) - 1) = n := by rw [hn, w64 (by omega) (by omega)]; omega
      simp only [spec_trim.l0, e] at h
      rw [if_pos (by omega), if_pos (by omega), if_pos (by omega)] at h
      have er : rd l (n : Int) = l.getD n 0 := by simp [rd]
      rw [er] at h
      by_cases g0 : l.getD n 0 = 0
      · rw [if_pos g0, if_pos (by omega), show ((n : Int)).toNat = n by omega] at h
        have hlt : (l.take n).length = n := by simp; omega
        have := ih (l.take n) r (by omega) h
        rw [hlt, nlTo_take l n n (Nat.le_refl _), List.take_take, Nat.min_eq_left (nlTo_le l n)] at this
        rw [this, hn, nlTo, if_pos g0]
      · rw [if_neg g0] at h
        cases h
        rw [hn, nlTo, if_neg g0, ← hn, List.take_length]

theorem small_law (x : Int) (h0 : 0 ≤ x) (h1 : x ≤ 255) (k : Nat) (hk : 2 ≤ k) : ∃ r, spec_Small.f k x = some r ∧ Rep 65536 r x ∧ r.length ≤ 1 := by
  obtain ⟨k, rfl⟩ : ∃ j, k = j + 2 := ⟨k - 2, by omega⟩
  by_cases hx : x = 0
  · subst hx
    exact ⟨[], rfl, ⟨fun _ h => (by cases h), (by simp [Nrm]), rfl⟩, by simp⟩
  · have e1 : Int.tdiv x 65536 = 0 := by rw [Int.tdiv_eq_ediv_of_nonneg h0]; omega
    have e2 : Int.tmod x 65536 = x := by rw [Int.tmod_eq_emod_of_nonneg h0]; omega
    have e3 : wrap64 0 = 0 := w64 (by omega) (by omega)
    refine ⟨[x], ?_, ⟨Dig.one h0 (by omega), by simpa [Nrm] using hx, by simp [val]⟩, by simp⟩
    rw [spec_Small.f, spec_Small.l0, if_pos (by omega), if_pos (by simp), e1, e2, e3, spec_Small.l0, if_neg (by omega)]
    rfl

theorem wrapI {n : Int} (h0 : 0 ≤ n) (h1 : n < 9223372036854775808) : IntKind.i64.wrap n = n := by
  simp [IntKind.wrap, IntKind.bits, IntKind.signed]; omega
theorem wrapU {n : Int} (h0 : 0 ≤ n) (h1 : n < 18446744073709551616) : IntKind.u64.wrap n = n := by
  simp [IntKind.wrap, IntKind.bits, IntKind.signed]; omega
theorem shl8 (x : Int) (h0 : 0 ≤ x) (h1 : x < 65536) : shl .i64 x 8 = x * 256 := by
  show IntKind.i64.wrap (x * 2 ^ 8) = x * 256
  exact wrapI (by omega) (by omega)

/-- one round of Shl by eight -/
theorem set_mid (p : List Int) (c d : Int) (r : List Int) : (p ++ c :: r).set p.length d = p ++ d :: r := by
  simp
theorem getD_mid (p : List Int) (c : Int) (r : List Int) : (p ++ c :: r).getD p.length 0 = c := by simp
theorem td_small (z : Int) (h0 : 0 ≤ z) (h1 : z ≤ 100000000) : wrap64 (Int.tdiv z 65536) = z / 65536 := by rw [Int.tdiv_eq_ediv_of_nonneg h0]; exact w64 (by omega) (by omega)
theorem tm_small (z : Int) (h0 : 0 ≤ z) : Int.tmod z 65536 = z % 65536 := Int.tmod_eq_emod_of_nonneg h0
theorem w_i (i : Nat) (h : i ≤ 100000) : wrap64 (0 + (i : Int)) = i := by rw [Int.zero_add]; exact w64 (by omega) (by omega)
theorem w_i1 (i : Nat) (h : i ≤ 100000) : wrap64 ((i : Int) + 1) = ((i + 1 : Nat) : Int) := by rw [w64 (by omega) (by omega)]; omega
theorem w_16 : wrap64 (Int.tdiv 8 16) = 0 := w64 (by decide) (by decide)
theorem m_16 : Int.tmod 8 16 = 8 := rfl
theorem shl_step (l : List Int) (m i : Nat) (p : List Int) (c x : Int) (k : Nat) (hl : l.length ≤ 1000) (hi : m + 1 + i = l.length) (hp : p.length = i) (hx : x = l.getD i 0) (hx0 : 0 ≤ x) (hx1 : x < 65536) (hc0 : 0 ≤ c) (hc1 : c ≤ 255) :
    spec_Shl.l0 (k + 1) 8 (p ++ c :: List.replicate (m + 1) 0) l (l.length : Int) (i : Int) = spec_Shl.l0 k 8 ((p ++ [c + (x * 256) % 65536]) ++ ((x * 256) / 65536) :: List.replicate m 0) l (l.length : Int) ((i + 1 : Nat) : Int) := by
  have eL : (p ++ c :: List.replicate (m + 1) 0).length = l.length + 1 := by simp; omega
  have c1 : (i : Int) < (l.length : Int) := by omega
  have c2 : (0 : Int) ≤ (i : Int) := by omega
  have c3 : (i : Int) < ((p ++ c :: List.replicate (m + 1) 0).length : Int) := by rw [eL]; omega
  have c4 : (((i + 1 : Nat)) : Int) < ((p ++ c :: List.replicate (m + 1) 0).length : Int) := by rw [eL]; omega
  have c5 : (0 : Int) ≤ (((i + 1 : Nat)) : Int) := by omega
  have c6 : (0 : Int) ≤ 8 := by decide
  have b1 : 0 ≤ x * 256 := by omega
  have b2 : x * 256 ≤ 100000000 := by omega
  have b3 : 0 ≤ c + (x * 256) % 65536 := by omega
  have b4 : c + (x * 256) % 65536 ≤ 1000000000 := by omega
  have b5 : i ≤ 100000 := by omega
  have erd : rd l (i : Int) = x := by rw [hx]; simp [rd]
  have erp : rd (p ++ c :: List.replicate (m + 1) 0) (i : Int) = c := by
    simp only [rd, Int.toNat_natCast]; rw [← hp]; exact getD_mid p c _
  have es1 : (p ++ c :: List.replicate (m + 1) 0).set (i : Int).toNat (c + (x * 256) % 65536) = p ++ (c + (x * 256) % 65536) :: List.replicate (m + 1) 0 := by
    rw [Int.toNat_natCast, ← hp]; exact set_mid p c _ _
  have es2 : (p ++ (c + (x * 256) % 65536) :: List.replicate (m + 1) 0).set ((i + 1 : Nat) : Int).toNat ((x * 256) / 65536) = (p ++ [c + (x * 256) % 65536]) ++ ((x * 256) / 65536) :: List.replicate m 0 := by
    have := set_mid (p ++ [c + (x * 256) % 65536]) 0 ((x * 256) / 65536) (List.replicate m 0)
    rw [List.length_append, List.length_singleton, hp] at this
    rw [Int.toNat_natCast, ← this]
    simp [List.replicate_succ]
  have ew := w64 b3 b4
  rw [← es2, ← es1]
  simp only [spec_Shl.l0, w_16, m_16, w_i i b5, w_i1 i b5, erd, shl8 x hx0 hx1, tm_small _ b1, td_small _ b1 b2, erp, ew, if_pos c1, if_pos c2, if_pos c3, if_pos c4, if_pos c5, if_pos c6]
theorem ring1 (P x c q r vp vl : Int) (hm : x * 256 = q + 65536 * r) (hv : vp + P * c = 256 * vl) : vp + P * (c + q) + P * 65536 * r = 256 * (vl + P * x) := by grind
theorem shl_loop (l : List Int) (hd : Dig 65536 l) (hl : l.length ≤ 1000) : ∀ (m i : Nat) (p : List Int) (c : Int) (k : Nat), m + i = l.length → p.length = i → Dig 65536 p → 0 ≤ c → c ≤ 255 →
    val 65536 p + 65536 ^ i * c = 256 * val 65536 (l.take i) → m + l.length + 10 < k →
    ∃ out, spec_Shl.l0 k 8 (p ++ c :: List.replicate m 0) l (l.length : Int) (i : Int) = some (out.take (nlTo out out.length)) ∧ Dig 65536 out ∧ val 65536 out = 256 * val 65536 l ∧ out.length = l.length + 1 := by
  intro m
  induction m with
  | zero =>
    intro i p c k hi hp hdp hc0 hc1 hv hk
    obtain ⟨k, rfl⟩ : ∃ j, k = j + 1 := ⟨k - 1, by omega⟩
    have hlen : (p ++ [c]).length = l.length + 1 := by simp; omega
    refine ⟨p ++ [c], ?_, hdp.app (Dig.one hc0 (by omega)), ?_, hlen⟩
    · rw [spec_Shl.l0, if_neg (by omega), spec_trim.f]
      rw [show p ++ c :: List.replicate 0 0 = p ++ [c] from rfl, trim_some _ (p ++ [c]) k hlen (by omega) (by omega)]
      rfl
    · rw [val_snoc, hp, hv, List.take_of_length_le (by omega)]
  | succ m ih =>
    intro i p c k hi hp hdp hc0 hc1 hv hk
    obtain ⟨k, rfl⟩ : ∃ j, k = j + 1 := ⟨k - 1, by omega⟩
    obtain ⟨x, hx⟩ : ∃ x, x = l.getD i 0 := ⟨_, rfl⟩
    have hxr := hd.getD (by omega) i
    rw [← hx] at hxr
    rw [shl_step l m i p c x k hl hi hp hx hxr.1 hxr.2 hc0 hc1]
    refine ih (i + 1) _ _ k (by omega) (by simp; omega) (hdp.app (Dig.one (by omega) (by omega))) (by omega) (by omega) ?_ (by omega)
    rw [val_snoc, hp, val_take, Int.pow_succ, ← hx]
    exact ring1 _ _ _ _ _ _ _ (by omega) hv
theorem shl_law (l : List Int) (V : Int) (h : Rep 65536 l V) (hl : l.length ≤ 1000) (k : Nat) (hk : 3000 ≤ k) : ∃ r, spec_Shl.f k l 8 = some r ∧ Rep 65536 r (256 * V) ∧ r.length ≤ l.length + 1 := by
  obtain ⟨hd, hn, hv⟩ := h
  by_cases h0 : l.length = 0
  · obtain rfl : l = [] := List.eq_nil_of_length_eq_zero h0
    refine ⟨[], rfl, ⟨hd, hn, ?_⟩, by simp⟩
    rw [← hv]; rfl
  · obtain ⟨out, h1, h2, h3, h4⟩ := shl_loop l hd hl l.length 0 [] 0 k (by omega) rfl (fun _ h => by cases h) (by omega) (by omega) (by simp [val]) (by omega)
    have h5 := rep_trim h2
    rw [h3, hv] at h5
    have h6 := trim_len out
    refine ⟨out.take (nlTo out out.length), ?_, h5, by omega⟩
    have c0 : ¬ ((l.length : Int) = 0) := by omega
    have c1 : (0 : Int) ≤ ((l.length + 1 : Nat) : Int) := by omega
    have c2 : l.length + 1 ≤ 35184372088832 := by omega
    have c3 : l.length ≤ 100000 := by omega
    simp only [spec_Shl.f, w_16, w_i _ c3, w_i1 _ c3, if_neg c0, if_pos c1, Int.toNat_natCast, if_pos c2]
    exact h1

theorem add_round (a b : List Int) (x5 : List Int) (c : Int) (i k : Nat) (hda : Dig 65536 a) (hdb : Dig 65536 b) (hi : i < a.length ∨ i < b.length) (hla : a.length ≤ 1000) (hlb : b.length ≤ 1000) (hl : x5.length ≤ 1000) (hc : 0 ≤ c ∧ c ≤ 1) :
    spec_Add.l0 (k + 2) a b x5 c (i : Int) = spec_Add.l0 k a b (x5 ++ [(c + a.getD i 0 + b.getD i 0) % 65536]) ((c + a.getD i 0 + b.getD i 0) / 65536) ((i + 1 : Nat) : Int) := by
  have ha := hda.getD (by omega) i
  have hb := hdb.getD (by omega) i
  obtain ⟨x, hx⟩ : ∃ x, x = a.getD i 0 := ⟨_, rfl⟩
  obtain ⟨y, hy⟩ : ∃ y, y = b.getD i 0 := ⟨_, rfl⟩
  have erx : rd a (i : Int) = x := by rw [hx]; simp [rd]
  have ery : rd b (i : Int) = y := by rw [hy]; simp [rd]
  rw [← hx] at ha ⊢
  rw [← hy] at hb ⊢
  have hxz : ¬ i < a.length → x = 0 := fun h => by rw [hx, List.getD_eq_getElem?_getD, List.getElem?_eq_none (by omega)]; rfl
  have hyz : ¬ i < b.length → y = 0 := fun h => by rw [hy, List.getD_eq_getElem?_getD, List.getElem?_eq_none (by omega)]; rfl
  have g0 : (0 : Int) ≤ (i : Int) := by omega
  have g1 : x5.length < 17592186044416 := by omega
  have b5 : i ≤ 100000 := by omega
  have d1 : 0 ≤ c + x ∧ c + x ≤ 100000000 := by omega
  have d2 : 0 ≤ c + y ∧ c + y ≤ 100000000 := by omega
  have d3 : 0 ≤ c + x + y ∧ c + x + y ≤ 100000000 := by omega
  have big : (100000000 : Int) ≤ 1000000000 := by decide
  have w1 := w64 d1.1 (Int.le_trans d1.2 big)
  have w2 := w64 d2.1 (Int.le_trans d2.2 big)
  have w3 := w64 d3.1 (Int.le_trans d3.2 big)
  by_cases h1 : i < a.length
  · have g2 : (i : Int) < (a.length : Int) := Int.ofNat_lt.2 h1
    by_cases h2 : i < b.length
    · have g3 : (i : Int) < (b.length : Int) := Int.ofNat_lt.2 h2
      simp only [spec_Add.l0, spec_Add.j1, if_pos g2, if_pos g0, if_pos g3, if_pos g1, if_true, erx, ery, w1, w3, td_small _ d3.1 d3.2, tm_small _ d3.1, w_i1 i b5]
    · have g3 : ¬ (i : Int) < (b.length : Int) := fun h => h2 (Int.ofNat_lt.1 h)
      obtain rfl := hyz h2
      simp only [spec_Add.l0, spec_Add.j1, if_pos g2, if_pos g0, if_neg g3, if_pos g1, if_true, erx, w1, td_small _ d1.1 d1.2, tm_small _ d1.1, w_i1 i b5, Int.add_zero]
  · have g2 : ¬ (i : Int) < (a.length : Int) := fun h => h1 (Int.ofNat_lt.1 h)
    have g3 : (i : Int) < (b.length : Int) := Int.ofNat_lt.2 (hi.resolve_left h1)
    obtain rfl := hxz h1
    simp only [spec_Add.l0, spec_Add.j1, if_neg g2, if_pos g0, if_pos g3, if_pos g1, decide_eq_true g3, if_true, ery, w2, td_small _ d2.1 d2.2, tm_small _ d2.1, w_i1 i b5, Int.add_zero]
theorem ring2 (P x y c q r v5 va vb : Int) (hm : c + x + y = q + 65536 * r) (hv : v5 + P * c = va + vb) : v5 + P * q + P * 65536 * r = va + P * x + (vb + P * y) := by grind
theorem add_loop (a b : List Int) (hda : Dig 65536 a) (hdb : Dig 65536 b) (hla : a.length ≤ 500) (hlb : b.length ≤ 500) : ∀ (m i : Nat) (x5 : List Int) (c : Int) (k : Nat), m + i = max a.length b.length → x5.length = i → Dig 65536 x5 → 0 ≤ c ∧ c ≤ 1 →
    val 65536 x5 + 65536 ^ i * c = val 65536 (a.take i) + val 65536 (b.take i) → 2 * m + 600 < k →
    ∃ out, spec_Add.l0 k a b x5 c (i : Int) = some (out.take (nlTo out out.length)) ∧ Dig 65536 out ∧ val 65536 out = val 65536 a + val 65536 b ∧ out.length = max a.length b.length + 1 := by
  intro m
  induction m with
  | zero =>
    intro i x5 c k hi hp hdp hc hv hk
    obtain ⟨k, rfl⟩ : ∃ j, k = j + 2 := ⟨k - 2, by omega⟩
    have hlen : (x5 ++ [c]).length = max a.length b.length + 1 := by simp; omega
    refine ⟨x5 ++ [c], ?_, hdp.app (Dig.one hc.1 (by omega)), ?_, hlen⟩
    · have g2 : ¬ (i : Int) < (a.length : Int) := by omega
      have g3 : ¬ (i : Int) < (b.length : Int) := by omega
      have g1 : x5.length < 17592186044416 := by omega
      simp only [spec_Add.l0, spec_Add.j1, if_neg g2, if_neg g3, if_pos g1, spec_trim.f]
      rw [trim_some _ (x5 ++ [c]) k hlen (by omega) (by omega)]
      simp [g3]
    · rw [val_snoc, hp, hv, List.take_of_length_le (by omega), List.take_of_length_le (by omega)]
  | succ m ih =>
    intro i x5 c k hi hp hdp hc hv hk
    obtain ⟨k, rfl⟩ : ∃ j, k = j + 2 := ⟨k - 2, by omega⟩
    have ha := hda.getD (by omega) i
    have hb := hdb.getD (by omega) i
    rw [add_round a b x5 c i k hda hdb (by omega) (by omega) (by omega) (by omega) hc]
    refine ih (i + 1) _ _ k (by omega) (by simp; omega) (hdp.app (Dig.one (by omega) (by omega))) (by omega) ?_ (by omega)
    rw [val_snoc, hp, val_take, val_take, Int.pow_succ]
    exact ring2 _ _ _ _ _ _ _ _ _ (by omega) hv
theorem add_law (a b : List Int) (A B : Int) (ha : Rep 65536 a A) (hb : Rep 65536 b B) (hla : a.length ≤ 500) (hlb : b.length ≤ 500) (k : Nat) (hk : 2000 ≤ k) : ∃ r, spec_Add.f k a b = some r ∧ Rep 65536 r (A + B) ∧ r.length ≤ max a.length b.length + 1 := by
  obtain ⟨out, h1, h2, h3, h4⟩ := add_loop a b ha.1 hb.1 hla hlb (max a.length b.length) 0 [] 0 k (by omega) rfl (fun _ h => by cases h) (by omega) (by simp [val]) (by omega)
  refine ⟨_, h1, ?_, ?_⟩
  · have := rep_trim h2
    rw [h3, ha.2.2, hb.2.2] at this
    exact this
  · have := trim_len out; omega
end Go.Proofs.Ytdfcomilhjoooaa.Spec2
