/- The bytes of words: values. No program. nat.bytes into a buffer of eight bytes a word. nat.bitLen, Int.BitLen, BigInt.BitLen. Int.Bytes, BigInt.Bytes of at least one word; BigInt.FillBytes of no word. Decimal.Decompose without a buffer. impl.Decompose, general in what made and Decompose give. impl.Compose of the forms 1 and 2. laws.ofKind at the kinds 0, 1 and 3; laws.equal of one thing. Parts of the walk of laws.FnComposeBack. -/
import Derived.Test.YtdfcomilhjoooaaBe
import Derived.Test.YtdfcomilhjoooaaBase6
import Derived.Test.YtdfcomilhjoooaaSpec3
import Derived.Test.YtdfcomilhjoooaaShelf
import Derived.Test.YtdfcomilhjoooaaCompose
import Derived.Test.YtdfcomilhjoooaaFin
import Derived.Test.YtdfcomilhjoooaaPequalx1
import Derived.Deep.RegionWith
namespace Go.Proofs.Ytdfcomilhjoooaa.Byt
open Go.RowKit Go.Proofs.YtdfcomilhjoooaaW.PrintWords Go.Proofs.Ytdfcomilhjoooaa.Base Go.Proofs.Ytdfcomilhjoooaa.Num Go.Proofs.Ytdfcomilhjoooaa.Be
set_option linter.unusedVariables false

/-- byte q of words, the lowest first -/
def byt (l : List Int) (q : Nat) : Int := (l.getD (q / 8) 0 / 256 ^ (q % 8)) % 256
def byts (l : List Int) : List Int := (List.range (8 * l.length)).map (byt l)
theorem byts_len (l : List Int) : (byts l).length = 8 * l.length := by simp [byts]
theorem byts_getD (l : List Int) {q : Nat} (h : q < 8 * l.length) : (byts l).getD q 0 = byt l q := by
  simp [byts, List.getD_eq_getElem?_getD, h]
theorem byt_dig (l : List Int) (q : Nat) : 0 ≤ byt l q ∧ byt l q < 256 := by unfold byt; omega
theorem byts_dig (l : List Int) : Dig 256 (byts l) := fun x hx => by
  obtain ⟨q, _, rfl⟩ := List.mem_map.1 hx
  exact byt_dig l q
theorem byts_cons (x : Int) (l : List Int) : byts (x :: l) = [x % 256, x / 256 % 256, x / 65536 % 256, x / 16777216 % 256, x / 4294967296 % 256, x / 1099511627776 % 256, x / 281474976710656 % 256, x / 72057594037927936 % 256] ++ byts l := by
  have e : 8 * (x :: l).length = 8 + 8 * l.length := by simp; omega
  simp only [byts]
  rw [e, List.range_add, List.map_append, List.map_map]
  congr 1
  · simp [List.range_succ, byt]
  · refine List.map_congr_left fun q _ => ?_
    simp only [Function.comp, byt]
    rw [show (8 + q) / 8 = q / 8 + 1 by omega, show (8 + q) % 8 = q % 8 by omega]
    simp
theorem byts_val : ∀ {l : List Int}, Dig (2 ^ 64) l → val 256 (byts l) = val (2 ^ 64) l
  | [], _ => rfl
  | x :: l, h => by
    have h1 := h.head
    rw [byts_cons, val_app, byts_val h.tail]
    simp only [val, List.length_cons, List.length_nil]
    omega

/-- the bytes of words, the highest first, no nought at the beginning -/
def bl (l : List Int) : List Int := ((byts l).take (nlTo (byts l) (8 * l.length))).reverse
theorem bl_len (l : List Int) : (bl l).length = nlTo (byts l) (8 * l.length) := by
  have := nlTo_le (byts l) (8 * l.length)
  simp [bl, byts_len]; omega
theorem bl_dig (l : List Int) : Dig 256 (bl l) := fun x hx => (byts_dig l).take _ x (List.mem_reverse.1 hx)
theorem bl_bew {l : List Int} (h : Dig (2 ^ 64) l) : bew (bl l) = val (2 ^ 64) l := by
  unfold bew bl
  rw [List.reverse_reverse, val_nlTo 256 (byts l) (8 * l.length) (by rw [byts_len]; exact Nat.le_refl _), ← byts_len l, List.take_length, byts_val h]
theorem bl_getD (l : List Int) {j : Nat} (h : j < (bl l).length) : (bl l).getD j 0 = byt l ((bl l).length - 1 - j) := by
  have hl := bl_len l
  have h2 := nlTo_le (byts l) (8 * l.length)
  have h3 := byts_len l
  rw [← byts_getD l (by omega)]
  simp only [List.getD_eq_getElem?_getD]
  congr 1
  unfold bl at h ⊢
  rw [List.getElem?_reverse (by simpa using h), List.getElem?_take]
  rw [List.length_reverse] at h ⊢
  rw [if_pos (by rw [List.length_take] at h ⊢; omega)]
end Go.Proofs.Ytdfcomilhjoooaa.Byt
namespace Go.Proofs.Ytdfcomilhjoooaa.Byt
open Go.RowKit Go.Proofs.YtdfcomilhjoooaaW.PrintWords Go.Proofs.Ytdfcomilhjoooaa.Base Go.Proofs.Ytdfcomilhjoooaa.Num Go.Proofs.Ytdfcomilhjoooaa.Be
set_option linter.unusedVariables false

/-- the lowest m bytes stand at the end of the buffer -/
def BS (l : List Int) (g N : Nat) (w : World) (m : Nat) (wr : World) : Prop :=
  ∃ cur : Array Value, wr.heap[g]? = some (.cells cur 5 (0, 0)) ∧ cur.size = N ∧ (∀ p, p < m → cur[N - 1 - p]? = some (.int .u8 (byt l p))) ∧ But g w wr
theorem bs_zero {l : List Int} {g N : Nat} {w : World} {cur : Array Value} (h : w.heap[g]? = some (.cells cur 5 (0, 0))) (hs : cur.size = N) : BS l g N w 0 w := ⟨cur, h, hs, fun p hp => absurd hp (Nat.not_lt_zero p), But.refl g w⟩
theorem bs_cell {l : List Int} {g N m t : Nat} {w wr : World} (h : BS l g N w m wr) (ht : t < N) : (∃ v, wr.cell? ⟨g, t, none⟩ = some v) ∧ wr.frozen? ⟨g, t, none⟩ = false := by
  obtain ⟨cur, h1, h2, _, _⟩ := h
  exact ⟨⟨cur[t], by rw [blk_cell h1 t]; simp [h2, ht]⟩, blk_frozen h1 t⟩
theorem bs_step {l : List Int} {g N m t : Nat} {w wr : World} {x : Int} (h : BS l g N w m wr) (ht : t + m + 1 = N) (hx : x = byt l m) : BS l g N w (m + 1) (wr.setCell ⟨g, t, none⟩ (.int .u8 x)) := by
  obtain ⟨cur, h1, h2, h3, h4⟩ := h
  refine ⟨_, blk_set h1 t _, by simp [h2], fun p hp => ?_, h4.set t _⟩
  by_cases e : p = m
  · subst e
    have : N - 1 - p = t := by omega
    rw [this, hx, Array.getElem?_setIfInBounds_self_of_lt (by omega)]
  · rw [Array.getElem?_setIfInBounds_ne (by omega)]; exact h3 p (by omega)
theorem byt_at (l : List Int) {k j : Nat} (hj : j < 8) : byt l (8 * k + j) = l.getD k 0 / 256 ^ j % 256 := by
  unfold byt
  rw [show (8 * k + j) / 8 = k by omega, show (8 * k + j) % 8 = j by omega]
theorem div_step (x : Int) (j : Nat) : x / 256 ^ j / 256 = x / 256 ^ (j + 1) := by
  have h : (0 : Int) < 256 ^ j := Int.pow_pos (by decide)
  rw [Int.ediv_ediv, if_neg (by omega), Int.sub_zero, Int.pow_succ]
/-- how many noughts stand at the front -/
theorem lead_stop {l : List Int} {N i : Nat} (hN : N = 8 * l.length) (hi : i < N) (h : nlTo (byts l) (N - i) = nlTo (byts l) N) (hb : ¬ byt l (N - 1 - i) = 0) : i = N - nlTo (byts l) N := by
  obtain ⟨m, hm⟩ : ∃ m, N - i = m + 1 := ⟨N - i - 1, by omega⟩
  have e : N - 1 - i = m := by omega
  rw [e] at hb
  rw [hm, nlTo, if_neg (by rw [byts_getD l (by omega)]; exact hb)] at h
  omega
theorem lead_on {l : List Int} {N i : Nat} (hN : N = 8 * l.length) (hi : i < N) (h : nlTo (byts l) (N - i) = nlTo (byts l) N) (hb : byt l (N - 1 - i) = 0) : nlTo (byts l) (N - (i + 1)) = nlTo (byts l) N := by
  obtain ⟨m, hm⟩ : ∃ m, N - i = m + 1 := ⟨N - i - 1, by omega⟩
  have e : N - 1 - i = m := by omega
  rw [e] at hb
  rw [hm, nlTo, if_pos (by rw [byts_getD l (by omega)]; exact hb)] at h
  rw [show N - (i + 1) = m by omega]; exact h

theorem reads_but' {w1 wr : World} {k : IntKind} {ad : Addr} {n g : Nat} {l : List Int} (h : ReadsInt w1 k (some ad) n l) (hb : But g w1 wr) (hne : ¬ ad.block = g) (hlt : ad.block < w1.heap.size) : ∀ j, j < n → wr.cell? (ad.add j) = some (.int k (l.getD j 0)) := by
  intro j hj
  obtain ⟨ad', e, hc⟩ := h.2.2 (by omega)
  cases e
  rw [← hc j hj]
  exact World.cell?_of_block (hb.block _ (by rw [Base.add_block]; exact hlt) (by rw [Base.add_block]; exact hne))

set_option maxHeartbeats 4000000 in
set_option maxRecDepth 100000 in
theorem bytes_any (A : Option Addr) (c : Nat) (l : List Int) (h0 : 0 < l.length) (hl : l.length ≤ 100) (hd : Dig (2 ^ 64) l) (g N : Nat) (hN : N = 8 * l.length) (cur : Array Value) (w : World) (hr : ReadsInt w .u64 A l.length l)
    (hg : w.heap[g]? = some (.cells cur 5 (0, 0))) (hs : cur.size = N) (hne : ∀ a, A = some a → ¬ a.block = g) (hlt : ∀ a, A = some a → a.block < w.heap.size) :
    Calls Try.prog 45 #[.slice A l.length c, .slice (some ⟨g, 0, none⟩) N N] w fun e w' => e = .returned (.int .i64 ((N - nlTo (byts l) N : Nat) : Int)) ∧ BS l g N w N w' := by
  obtain ⟨ad, rfl, hcl⟩ := hr.2.2 h0
  have HCL := Lib.hid (fun (wr : World) (hb : But g w wr) => (reads_but' hr hb (hne ad rfl) (hlt ad rfl)))
  have HBS := Lib.hid (bs_zero (l := l) hg hs)
  have HD := Lib.hid hd
  have HN := Lib.hid hN
  obtain ⟨n, hn⟩ : ∃ n, n = l.length := ⟨_, rfl⟩
  have HL := Lib.hid hn
  have HN8 : Hid (N = 8 * n) := Lib.hid (by omega)
  have hN800 : N ≤ 800 := by omega
  have hn100 : n ≤ 100 := by omega
  rw [← hn]
  clear hr hg hs hne hlt hcl hd hn hN hl h0
  go_enter Try.func45, Try.ntmps45
  go_wp2_with fail
  go_loopw [4, 12] (fun v4 v12 wr => ∃ k t : Nat, k ≤ n ∧ t + 8 * k = N ∧ v12 = .int .i64 k ∧ v4 = .int .i64 t ∧ BS l g N w (8 * k) wr) (fun _ v12 _ => n - (intOf v12).toNat)
  case atStart => exact ⟨0, N, Nat.zero_le _, rfl, rfl, rfl, HBS.out⟩
  case round =>
    obtain ⟨k, t, hk, htk, rfl, rfl, hbs⟩ := hrel
    have HB := Lib.hid hbs
    clear hbs
    by_cases hlt : k < n
    · obtain ⟨x, hx⟩ : ∃ x, x = l.getD k 0 := ⟨_, rfl⟩
      have hcell : wr.cell? (ad.add k) = some (.int .u64 x) := by
        rw [hx]; exact HCL.out wr HB.out.choose_spec.2.2.2 k (by rw [← HL.out]; exact hlt)
      have hxr : 0 ≤ x ∧ x < 2 ^ 64 := by rw [hx]; exact HD.out.getD (by decide) k
      have HX := Lib.hid hx
      have HXR := Lib.hid hxr
      clear hx hxr
      go_wp2_with fail
      go_loopw [4, 6, 7] (fun v4 v6 v7 wr2 => ∃ j t : Nat, j ≤ 8 ∧ t + (8 * k + j) = N ∧ v7 = .int .i64 j ∧ v4 = .int .i64 t ∧ v6 = .int .u64 (x / 256 ^ j) ∧ BS l g N w (8 * k + j) wr2) (fun _ _ v7 _ => 8 - (intOf v7).toNat)
      case atStart => exact ⟨0, t, Nat.zero_le _, htk, rfl, rfl, (by simp), HB.out⟩
      case round =>
        obtain ⟨j, t2, hj, htj, rfl, rfl, rfl, hbs2⟩ := hrel
        have HB2 := Lib.hid hbs2
        clear hbs2
        by_cases hj8 : j < 8
        · match t2, htj, HB2 with
          | 0, htj, HB2 => exact absurd HN8.out (by omega)
          | t3 + 1, htj, HB2 =>
            have htN : t3 < N := by omega
            obtain ⟨⟨v0, hv0⟩, hf0⟩ := bs_cell HB2.out htN
            have e1 : ((t3 + 1 : Nat) : Int) - 1 = (t3 : Int) := by omega
            have HTJ := Lib.hid htj
            obtain ⟨y, hy⟩ : ∃ y, y = x / 256 ^ j := ⟨_, rfl⟩
            rw [← hy]
            have hyr : 0 ≤ y ∧ y < 2 ^ 64 := by
              rw [hy]
              have h1 := HXR.out
              have h2 : (0 : Int) < 256 ^ j := Int.pow_pos (by decide)
              exact ⟨Int.ediv_nonneg h1.1 (by omega), Int.lt_of_le_of_lt (Int.ediv_le_self _ h1.1) h1.2⟩
            have HY := Lib.hid hy
            clear hy htj hj
            go_wp2_with fail
            have htj := HTJ.out
            have hst := bs_step (t := t3) (m := 8 * k + j) (x := y % 256) HB2.out (by omega) (by rw [HY.out, byt_at l hj8, HX.out])
            refine ⟨⟨j + 1, t3, hj8, by omega, by rw [Int.natCast_add]; rfl, rfl, by rw [HY.out, div_step], hst⟩, ?_⟩
            have e2 : ((j : Int) + 1).toNat = j + 1 := by omega
            simp only [intOf, Int.toNat_natCast, e2]
            omega
        · obtain rfl : j = 8 := by omega
          have HTJ := Lib.hid htj
          clear hj8 hj htj
          go_wp2_with fail
          have htj := HTJ.out
          have hb2 := HB2.out
          rw [show 8 * k + 8 = 8 * (k + 1) by omega] at hb2
          refine ⟨⟨k + 1, t2, hlt, by omega, by rw [Int.natCast_add]; rfl, rfl, hb2⟩, ?_⟩
          have e2 : ((k : Int) + 1).toNat = k + 1 := by omega
          simp only [intOf, Int.toNat_natCast, e2]
          omega
    · obtain rfl : k = n := by omega
      obtain rfl : t = 0 := by have := HN8.out; omega
      clear hlt hk
      have hb := HB.out
      rw [← HN8.out] at hb
      have HBN := Lib.hid hb
      clear hb HB htk
      go_wp2_with fail
      go_loop [4] (fun v4 => ∃ i : Nat, i ≤ N ∧ v4 = .int .i64 i ∧ nlTo (byts l) (N - i) = nlTo (byts l) N) (fun v4 => N - (intOf v4).toNat)
      case atStart => exact ⟨0, Nat.zero_le _, rfl, rfl⟩
      case round =>
        obtain ⟨i, hi, rfl, hnl⟩ := hrel
        have HNL := Lib.hid hnl
        clear hnl
        by_cases hiN : i < N
        · have hc : wr.cell? ⟨g, i, none⟩ = some (.int .u8 (byt l (N - 1 - i))) := by
            obtain ⟨cur', h1, h2, h3, _⟩ := HBN.out
            rw [blk_cell h1 i]
            have := h3 (N - 1 - i) (by omega)
            rwa [show N - 1 - (N - 1 - i) = i by omega] at this
          obtain ⟨z, hz⟩ : ∃ z, z = byt l (N - 1 - i) := ⟨_, rfl⟩
          rw [← hz] at hc
          have HZ := Lib.hid hz
          clear hz
          by_cases h0 : z = 0
          · subst h0
            have hon := lead_on HN.out hiN HNL.out HZ.out.symm
            have HON := Lib.hid hon
            have hm : N - (i + 1) < N - i := by omega
            clear hon
            go_wp2_with fail
            refine ⟨⟨i + 1, hiN, by rw [Int.natCast_add]; rfl, HON.out⟩, ?_⟩
            have e2 : ((i : Int) + 1).toNat = i + 1 := by omega
            simp only [intOf, Int.toNat_natCast, e2]
            exact hm
          · have hb : (z == 0) = false := by simpa using h0
            have hst := lead_stop HN.out hiN HNL.out (by rw [← HZ.out]; exact h0)
            have HST := Lib.hid hst
            clear hst
            go_wp2_with fail
            go_ret
            exact ⟨by rw [← HST.out]; rfl, HBN.out⟩
        · obtain rfl : i = N := by omega
          go_wp2_with fail
          go_ret
          have hnl := HNL.out
          rw [Nat.sub_self, nlTo] at hnl
          exact ⟨by rw [← hnl]; rfl, HBN.out⟩
end Go.Proofs.Ytdfcomilhjoooaa.Byt
namespace Go.Proofs.Ytdfcomilhjoooaa.Byt
open Go.RowKit Go.Proofs.YtdfcomilhjoooaaW.PrintWords Go.Proofs.Ytdfcomilhjoooaa.Base Go.Proofs.Ytdfcomilhjoooaa.Num
open Go.Proofs.Ytdfcomilhjoooaa.Spec3 (bits_or)
set_option linter.unusedVariables false

def or1 (y : Int) (k : Int) : Int := Go.bits .or .u64 y (y / k)
/-- the number with all bits below its highest one set -/
def orc (x : Int) : Int :=
  Go.bits .or .u64 (or1 (or1 (or1 (or1 (or1 x 2) 4) 16) 256) 65536) (or1 (or1 (or1 (or1 (or1 x 2) 4) 16) 256) 65536 / 65536 / 65536)
theorem or_b {y z : Int} (h0 : 0 ≤ y) (h1 : y < 2 ^ 64) (h2 : 0 ≤ z) (h3 : z < 2 ^ 64) : y ≤ Go.bits .or .u64 y z ∧ Go.bits .or .u64 y z < 2 ^ 64 := by
  obtain ⟨a, rfl⟩ := Int.eq_ofNat_of_zero_le h0
  obtain ⟨b, rfl⟩ := Int.eq_ofNat_of_zero_le h2
  have ha : a < 2 ^ 64 := by exact_mod_cast h1
  have hb : b < 2 ^ 64 := by exact_mod_cast h3
  rw [bits_or ha hb]
  have h4 : a ≤ a ||| b := Nat.left_le_or
  have h5 : a ||| b < 2 ^ 64 := Nat.or_lt_two_pow ha hb
  exact ⟨by exact_mod_cast h4, by exact_mod_cast h5⟩
theorem or1_b {y : Int} {k : Int} (hk : 1 < k) (h0 : 0 ≤ y) (h1 : y < 2 ^ 64) : 0 ≤ or1 y k ∧ y ≤ or1 y k ∧ or1 y k < 2 ^ 64 := by
  have h2 : 0 ≤ y / k := Int.ediv_nonneg h0 (by omega)
  have h3 : y / k ≤ y := Int.ediv_le_self _ h0
  have := or_b h0 h1 h2 (by omega)
  exact ⟨Int.le_trans h0 this.1, this.1, this.2⟩
theorem orc_b {x : Int} (h0 : 0 ≤ x) (h1 : x < 2 ^ 64) : x ≤ orc x ∧ orc x < 2 ^ 64 := by
  obtain ⟨a0, a1, a2⟩ := or1_b (k := 2) (by decide) h0 h1
  obtain ⟨b0, b1, b2⟩ := or1_b (k := 4) (by decide) a0 a2
  obtain ⟨c0, c1, c2⟩ := or1_b (k := 16) (by decide) b0 b2
  obtain ⟨d0, d1, d2⟩ := or1_b (k := 256) (by decide) c0 c2
  obtain ⟨e0, e1, e2⟩ := or1_b (k := 65536) (by decide) d0 d2
  have f0 := Int.ediv_nonneg (Int.ediv_nonneg e0 (show (0 : Int) ≤ 65536 by decide)) (show (0 : Int) ≤ 65536 by decide)
  have f1 : or1 (or1 (or1 (or1 (or1 x 2) 4) 16) 256) 65536 / 65536 / 65536 < 2 ^ 64 := Int.lt_of_le_of_lt (Int.le_trans (Int.ediv_le_self _ (Int.ediv_nonneg e0 (by decide))) (Int.ediv_le_self _ e0)) e2
  have g := or_b e0 e2 f0 f1
  exact ⟨Int.le_trans a1 (Int.le_trans b1 (Int.le_trans c1 (Int.le_trans d1 (Int.le_trans e1 g.1)))), g.2⟩

theorem bla_le : ∀ f x, Lib.bitLenAux f x ≤ f
  | 0, _ => Nat.le_refl _
  | f + 1, x => by
    unfold Lib.bitLenAux
    split
    · omega
    · have := bla_le f (x / 2); omega
theorem bla_lt : ∀ f x, x < 2 ^ f → x < 2 ^ Lib.bitLenAux f x
  | 0, x, h => h
  | f + 1, x, h => by
    unfold Lib.bitLenAux
    split
    · omega
    · rw [Nat.pow_succ] at h
      have := bla_lt f (x / 2) (by omega)
      rw [Nat.add_comm, Nat.pow_succ]; omega
theorem bl_le (x : Nat) : Lib.bitLen x ≤ 64 := bla_le 64 x
theorem bl_lt (x : Nat) (h : x < 2 ^ 64) : x < 2 ^ Lib.bitLen x := bla_lt 64 x h
theorem bl_pos (x : Nat) (h : x < 2 ^ 64) (h0 : 0 < x) : 0 < Lib.bitLen x := by
  have := bl_lt x h
  rcases Nat.eq_zero_or_pos (Lib.bitLen x) with e | e
  · rw [e] at this; omega
  · exact e

/-- what bitLen gives -/
def bitL (l : List Int) : Nat := if l.length = 0 then 0 else 64 * (l.length - 1) + Lib.bitLen (orc (l.getD (l.length - 1) 0)).toNat

set_option maxHeartbeats 1000000 in
theorem bitLen_any (A : Option Addr) (c : Nat) (l : List Int) (hl : l.length ≤ 1000) (hd : Dig (2 ^ 64) l) (w : World) (hr : ReadsInt w .u64 A l.length l) :
    Calls Try.prog 44 #[.slice A l.length c] w fun e w' => e = .returned (.int .i64 (bitL l : Nat)) ∧ w = w' := by
  rcases Nat.eq_zero_or_pos l.length with h0 | h0
  · obtain rfl : l = [] := List.eq_nil_of_length_eq_zero h0
    clear hr hl h0 hd
    go_enter Try.func44, Try.ntmps44
    go_wp2_with fail
    go_ret
    exact ⟨rfl, rfl⟩
  · obtain ⟨n, hn⟩ : ∃ n, l.length = n + 1 := ⟨l.length - 1, by omega⟩
    obtain ⟨ad, rfl, hcl⟩ := hr.2.2 h0
    have hcell := hcl n (by omega)
    obtain ⟨x, hx⟩ : ∃ x, x = l.getD n 0 := ⟨_, rfl⟩
    rw [← hx] at hcell
    have hxr : 0 ≤ x ∧ x < 2 ^ 64 := by rw [hx]; exact hd.getD (by decide) n
    have e : bitL l = 64 * n + Lib.bitLen (orc x).toNat := by
      unfold bitL; rw [if_neg (by omega), hn, Nat.add_sub_cancel, ← hx]
    rw [e, hn]
    have HB := Lib.hid (orc_b hxr.1 hxr.2)
    have hn1000 : n ≤ 1000 := by omega
    have HL := Lib.hid (Try.bits_Len (orc x) w (by have := HB.out; omega) (by have := HB.out; omega))
    have hbl : Lib.bitLen (orc x).toNat ≤ 64 := bl_le _
    obtain ⟨L, hL⟩ : ∃ L, L = Lib.bitLen (orc x).toNat := ⟨_, rfl⟩
    rw [← hL] at HL hbl ⊢
    clear hL e hx hn hcl hr hl hd h0
    go_enter Try.func44, Try.ntmps44
    go_wp2_with fail
    refine HL.out.mono ?_
    rintro e w' ⟨rfl, rfl⟩
    clear HL HB
    go_wp2_with fail
    go_ret
    refine ⟨?_, rfl⟩
    have e1 : ((64 * n + L : Nat) : Int) = (n : Int) * 64 + (L : Int) := by omega
    rw [e1]; rfl
theorem bitL_zero : bitL [] = 0 := rfl
theorem bitL_pos {l : List Int} (hd : Dig (2 ^ 64) l) (hn : Nrm l) (h : 0 < l.length) : 0 < bitL l := by
  unfold bitL
  rw [if_neg (by omega)]
  have h1 := hd.getD (by decide) (l.length - 1)
  have h2 := Spec3.nrm_last hn h
  have h3 := orc_b h1.1 h1.2
  have := bl_pos (orc (l.getD (l.length - 1) 0)).toNat (by omega) (by omega)
  omega
theorem bitL_le (l : List Int) : bitL l ≤ 64 * l.length := by
  unfold bitL
  split
  · omega
  · have := bl_le (orc (l.getD (l.length - 1) 0)).toNat
    omega

set_option maxHeartbeats 1000000 in
theorem intBitLen (b o t : Nat) (cs : Array Value) (xn : Bool) (A : Option Addr) (c : Nat) (l : List Int) (hl : l.length ≤ 1000) (hd : Dig (2 ^ 64) l) (w : World) (hr : ReadsInt w .u64 A l.length l)
    (hb : w.heap[b]? = some (.cells cs t (0, 0))) (hx : isInt cs o xn (.slice A l.length c)) :
    Calls Try.prog 29 #[.pointer (some ⟨b, o, none⟩)] w fun e w' => e = .returned (.int .i64 (bitL l : Nat)) ∧ w = w' := by
  have X1 : w.cell? ⟨b, o + 1, none⟩ = some (.slice A l.length c) := (blk_cell hb (o + 1)).trans hx.2
  have HI : Hid (Calls Try.prog 38 #[.pointer (some ⟨b, o, none⟩)] w fun e w' => e = .returned (.int .i64 (bitL l : Nat)) ∧ w = w') := Lib.hid (by
    have H := Lib.hid (bitLen_any A c l hl hd w hr)
    clear hr hb hx hd
    go_enter Try.func38, Try.ntmps38
    go_wp2_with fail
    refine H.out.mono ?_
    rintro e w' ⟨rfl, rfl⟩
    go_wp2_with fail
    go_ret
    exact ⟨rfl, rfl⟩)
  clear hr hb hx hd X1
  go_enter Try.func29, Try.ntmps29
  go_wp2_with fail
  refine HI.out.mono ?_
  rintro e w' ⟨rfl, rfl⟩
  go_wp2_with fail
  go_ret
  exact ⟨rfl, rfl⟩
end Go.Proofs.Ytdfcomilhjoooaa.Byt
namespace Go.Proofs.Ytdfcomilhjoooaa.Byt
open Go.RowKit Go.Proofs.YtdfcomilhjoooaaW.PrintWords Go.Proofs.Ytdfcomilhjoooaa.Base Go.Proofs.Ytdfcomilhjoooaa.Num Go.Proofs.Ytdfcomilhjoooaa.Be
set_option linter.unusedVariables false

/-- the bytes told -/
def BytesOut (l : List Int) (w : World) (e : Ending) (w' : World) : Prop :=
  ∃ ad cc, e = .returned (.slice (some ad) (bl l).length cc) ∧ (bl l).length ≤ cc ∧ ReadsInt w' .u8 (some ad) (bl l).length (bl l) ∧ Below w.heap.size w w'
theorem bytes_out {l : List Int} {N : Nat} {w w1 w' : World} (hN : N = 8 * l.length) (hl : l.length ≤ 100) (hw : w1 = w.alloc (.cells (madeCells #[.int .u8 0] N) 5)) (h : BS l w.heap.size N w1 N w') :
    BytesOut l w (.returned (.slice (some ⟨w.heap.size, N - nlTo (byts l) N, none⟩) (N - (N - nlTo (byts l) N)) (N - (N - nlTo (byts l) N)))) w' := by
  obtain ⟨cur, h1, h2, h3, h4⟩ := h
  have hle := nlTo_le (byts l) N
  have hbl : (bl l).length = nlTo (byts l) N := by rw [bl_len, hN]
  refine ⟨⟨w.heap.size, N - nlTo (byts l) N, none⟩, N - (N - nlTo (byts l) N), by rw [hbl, show N - (N - nlTo (byts l) N) = nlTo (byts l) N by omega], by omega, ⟨rfl, by omega, fun _ => ⟨_, rfl, fun j hj => ?_⟩⟩, ?_⟩
  · rw [bl_getD l hj]
    have := h3 ((bl l).length - 1 - j) (by omega)
    rw [show N - 1 - ((bl l).length - 1 - j) = N - nlTo (byts l) N + j by omega] at this
    rw [← this]
    have e : (⟨w.heap.size, N - nlTo (byts l) N, none⟩ : Addr).add j = ⟨w.heap.size, N - nlTo (byts l) N + j, none⟩ := by simp [Addr.add]
    rw [e]
    exact blk_cell h1 _
  · refine (below_alloc (Below.refl w.heap.size w) (.cells (madeCells #[.int .u8 0] N) 5)).trans ?_
    rw [← hw]
    exact h4.below (Nat.le_refl _) (by rw [hw]; simp)

theorem bl_nonempty {l : List Int} (h0 : 0 < l.length) (hd : Dig (2 ^ 64) l) (hn : Nrm l) : 0 < nlTo (byts l) (8 * l.length) := by
  have h1 := bl_bew hd
  have h2 := val_pos (by decide) hd hn (by intro h; rw [h] at h0; exact absurd h0 (by decide))
  rcases Nat.eq_zero_or_pos (nlTo (byts l) (8 * l.length)) with h | h
  · unfold bl at h1
    rw [h] at h1
    have : bew (List.take 0 (byts l)).reverse = 0 := rfl
    omega
  · exact h
set_option maxHeartbeats 2000000 in
set_option maxRecDepth 100000 in
theorem intBytesOf (b o t : Nat) (cs : Array Value) (xn : Bool) (A : Option Addr) (c : Nat) (l : List Int) (h0 : 0 < l.length) (hl : l.length ≤ 100) (hd : Dig (2 ^ 64) l) (hnr : Nrm l) (w : World) (hr : ReadsInt w .u64 A l.length l)
    (hA : ∀ a, A = some a → a.block < w.heap.size) (hb : w.heap[b]? = some (.cells cs t (0, 0))) (hx : isInt cs o xn (.slice A l.length c)) :
    Calls Try.prog 40 #[.pointer (some ⟨b, o, none⟩)] w fun e w' => BytesOut l w e w' := by
  obtain ⟨N, hN⟩ : ∃ N, N = 8 * l.length := ⟨_, rfl⟩
  obtain ⟨i0, hi, hz0, hz1, hz2⟩ := info_parts infoB
  obtain ⟨n, hn⟩ : ∃ n, n = l.length := ⟨_, rfl⟩
  have hmk : ∀ u : World, (Instr.makeSlice 22 (.int .i64 ((n : Int) * 8)) (.int .i64 ((n : Int) * 8))).run Try.prog u = .ok (.slice (some ⟨u.heap.size, 0, none⟩) N N) (u.alloc (.cells (madeCells #[.int .u8 0] N) 5)) := fun u => by
    have h := run_make (P := Try.prog) u 22 5 i0 (.int .u8 0) Try.underlying22 hi hz0 .i64 .i64 ((n : Int) * 8) ((n : Int) * 8) (by omega) (by omega) (by rw [hz2]; omega) (by omega)
    have e : ((n : Int) * 8).toNat = N := by omega
    rw [e] at h
    simpa [hz1, Value.cells] using h
  obtain ⟨w1, hw1⟩ : ∃ w1, w1 = w.alloc (.cells (madeCells #[.int .u8 0] N) 5) := ⟨_, rfl⟩
  have hr1 : ReadsInt w1 .u64 A l.length l := by rw [hw1]; exact hr.below (below_alloc (Below.refl _ _) _)
  have hg1 : w1.heap[w.heap.size]? = some (.cells (madeCells #[.int .u8 0] N) 5 (0, 0)) := by rw [hw1]; exact blk_new w _
  have HBY := Lib.hid (bytes_any A c l h0 hl hd w.heap.size N hN _ w1 hr1 hg1 (by have := made_len (.int .u8 0) N; simpa using this) (fun a ha => by have := hA a ha; omega) (fun a ha => by have := hA a ha; rw [hw1]; simp; omega))
  have hb1 : w1.heap[b]? = some (.cells cs t (0, 0)) := by rw [hw1]; exact blk_alloc hb _
  have X1 : w.cell? ⟨b, o + 1, none⟩ = some (.slice A l.length c) := (blk_cell hb (o + 1)).trans hx.2
  have Y1 : w1.cell? ⟨b, o + 1, none⟩ = some (.slice A l.length c) := (blk_cell hb1 (o + 1)).trans hx.2
  have HOUT := Lib.hid (fun (w' : World) => bytes_out (w := w) (w' := w') hN hl hw1)
  have HW1 := Lib.hid hw1
  obtain ⟨i, hi2⟩ : ∃ i, i = N - nlTo (byts l) N := ⟨_, rfl⟩
  have hiN : i < N := by have := bl_nonempty h0 hd hnr; rw [← hN] at this; omega
  have hN800 : N ≤ 800 := by omega
  have hn100 : n ≤ 100 := by omega
  rw [← hi2] at HBY HOUT
  rw [← hn] at HBY X1 Y1
  rw [hw1] at Y1
  clear hi2 hn hN hnr hr hb hx hr1 hg1 hb1 hw1 hA hd hl h0 hi hz0 hz1 hz2
  go_enter Try.func40, Try.ntmps40
  go_wp2_with fail
  rw [← HW1.out]
  refine HBY.out.mono ?_
  rintro e w2 ⟨rfl, hbs⟩
  have HO := Lib.hid (HOUT.out w2 hbs)
  clear hbs HOUT HBY
  go_wp2_with fail
  go_ret
  exact HO.out
theorem bigBytesOf (b o t : Nat) (cs : Array Value) (xn : Bool) (A : Option Addr) (c : Nat) (l : List Int) (h0 : 0 < l.length) (hl : l.length ≤ 100) (hd : Dig (2 ^ 64) l) (hnr : Nrm l) (w : World) (hr : ReadsInt w .u64 A l.length l)
    (hA : ∀ a, A = some a → a.block < w.heap.size) (hb : w.heap[b]? = some (.cells cs t (0, 0))) (hx : isInt cs o xn (.slice A l.length c)) :
    Calls Try.prog 31 #[.pointer (some ⟨b, o, none⟩)] w fun e w' => BytesOut l w e w' := by
  have H := Lib.hid (intBytesOf b o t cs xn A c l h0 hl hd hnr w hr hA hb hx)
  clear hr hA hb hx hd hl h0
  go_enter Try.func31, Try.ntmps31
  go_wp2_with fail
  refine H.out.mono ?_
  rintro e w' ⟨ad, cc, rfl, h1, h2, h3⟩
  have HH : Hid (BytesOut l w (.returned (.slice (some ad) (bl l).length cc)) w') := Lib.hid ⟨ad, cc, rfl, h1, h2, h3⟩
  clear h1 h2 h3 H
  go_wp2_with fail
  go_ret
  exact HH.out

theorem bytes_nil (A : Option Addr) (c : Nat) (w : World) :
    Calls Try.prog 45 #[.slice A 0 c, .slice none 0 0] w fun e w' => e = .returned (.int .i64 0) ∧ w = w' := by
  go_enter Try.func45, Try.ntmps45
  go_wp2_with fail
  refine wp_loop_rounds 1 ?_; rw [rounds_succ]
  go_wp2_with fail
  refine wp_loop_rounds 1 ?_; rw [rounds_succ]
  go_wp2_with fail
  go_ret
  exact ⟨rfl, rfl⟩
set_option maxRecDepth 100000 in
theorem fill_nil (b o t : Nat) (cs : Array Value) (xn : Bool) (A : Option Addr) (c : Nat) (w : World) (hb : w.heap[b]? = some (.cells cs t (0, 0))) (hx : isInt cs o xn (.slice A 0 c)) :
    Calls Try.prog 30 #[.pointer (some ⟨b, o, none⟩), .slice none 0 0] w fun e w' => e = .returned (.slice none 0 0) ∧ w = w' := by
  have X1 : w.cell? ⟨b, o + 1, none⟩ = some (.slice A 0 c) := (blk_cell hb (o + 1)).trans hx.2
  have HI : Hid (Calls Try.prog 39 #[.pointer (some ⟨b, o, none⟩), .slice none 0 0] w fun e w' => e = .returned (.slice none 0 0) ∧ w = w') := Lib.hid (by
    have H := Lib.hid (bytes_nil A c w)
    have hclr : ∀ u : World, (Builtin.clear_ #[22] 0 #[.slice none 0 0]).run Try.prog u = .ok (.tuple #[]) u := fun u => by kernel_rfl
    clear hb hx
    go_enter Try.func39, Try.ntmps39
    go_wp2_with fail
    refine H.out.mono ?_
    rintro e w' ⟨rfl, rfl⟩
    go_wp2_with fail
    go_ret
    exact ⟨rfl, rfl⟩)
  clear hb hx X1
  go_enter Try.func30, Try.ntmps30
  go_wp2_with fail
  refine HI.out.mono ?_
  rintro e w' ⟨rfl, rfl⟩
  go_wp2_with fail
  go_ret
  exact ⟨rfl, rfl⟩
end Go.Proofs.Ytdfcomilhjoooaa.Byt
namespace Go.Proofs.Ytdfcomilhjoooaa.Byt
open Go.RowKit Go.Proofs.YtdfcomilhjoooaaW.PrintWords Go.Proofs.Ytdfcomilhjoooaa.Base Go.Proofs.Ytdfcomilhjoooaa.Num Go.Proofs.Ytdfcomilhjoooaa.Be
set_option linter.unusedVariables false

theorem results_tmp4 {fn : Func} {t u v x : Tmp} (h : fn.results = #[.tmp t, .tmp u, .tmp v, .tmp x]) (tmps : Array Value) (P : Program) (w : World) :
    (results fn tmps).run P w = .ok (.tuple #[tmps.getD t undef, tmps.getD u undef, tmps.getD v undef, tmps.getD x undef]) w := by
  simp [results, h]
theorem madeQuiet_any (neg : Bool) (w : World) :
    Calls Try.prog 16 #[.agg #[.int .i64 3, .bool neg, .slice none 0 0, .int .i64 0]] w fun e w' => e = .returned (.pointer (some ⟨w.heap.size + 1, 0, none⟩)) ∧
      (w.alloc (.cells #[.int .i64 3, .bool neg, .slice none 0 0, .int .i64 0] 31)).alloc (.cells #[.int .i8 3, .bool neg, .int .i32 0, .bool false, .slice none 0 0, .bool false] 67) = w' := by
  go_enter Try.func16, Try.ntmps16
  go_wp2_with fail
  go_ret
  exact ⟨rfl, rfl⟩

/-- what Decompose tells of a finite one -/
def DecoOut (neg : Bool) (ex : Int) (l : List Int) (w : World) (e : Ending) (w' : World) : Prop :=
  ∃ B cc, e = .returned (.tuple #[.int .u8 0, .bool neg, .slice B (bl l).length cc, .int .i32 ex]) ∧ (bl l).length ≤ cc ∧ ReadsInt w' .u8 B (bl l).length (bl l) ∧ Below w.heap.size w w'

theorem deco_spec (f : Int) (hf : f = 1 ∨ f = 3) (D t : Nat) (neg : Bool) (v2 v3 v4 v5 : Value) (w : World) (hD : w.heap[D]? = some (.cells #[.int .i8 f, .bool neg, v2, v3, v4, v5] t (0, 0))) :
    Calls Try.prog 22 #[.pointer (some ⟨D, 0, none⟩), .slice none 0 0] w fun e w' => e = .returned (.tuple #[.int .u8 (if f = 1 then 1 else 2), .bool neg, .slice none 0 0, .int .i32 0]) ∧ w = w' := by
  have X0 : w.cell? ⟨D, 0, none⟩ = some (.int .i8 f) := blk_cell hD 0
  have X1 : w.cell? ⟨D, 1, none⟩ = some (.bool neg) := blk_cell hD 1
  clear hD
  rcases hf with rfl | rfl
  · go_enter Try.func22, Try.ntmps22
    go_wp2_with fail
    refine bodyPost_ret (results_tmp4 rfl _ _ _) rfl ?_
    exact ⟨rfl, rfl⟩
  · go_enter Try.func22, Try.ntmps22
    go_wp2_with fail
    refine bodyPost_ret (results_tmp4 rfl _ _ _) rfl ?_
    exact ⟨rfl, rfl⟩

set_option maxHeartbeats 2000000 in
set_option maxRecDepth 100000 in
theorem deco_fin (D t : Nat) (neg xn mm : Bool) (ex : Int) (A : Option Addr) (c : Nat) (l : List Int) (hl : l.length ≤ 100) (hd : Dig (2 ^ 64) l) (hnr : Nrm l) (w : World) (hr : ReadsInt w .u64 A l.length l)
    (hA : ∀ a, A = some a → a.block < w.heap.size) (hD : w.heap[D]? = some (.cells #[.int .i8 0, .bool neg, .int .i32 ex, .bool xn, .slice A l.length c, .bool mm] t (0, 0))) :
    Calls Try.prog 22 #[.pointer (some ⟨D, 0, none⟩), .slice none 0 0] w fun e w' => DecoOut neg ex l w e w' := by
  have X0 : w.cell? ⟨D, 0, none⟩ = some (.int .i8 0) := blk_cell hD 0
  have X1 : w.cell? ⟨D, 1, none⟩ = some (.bool neg) := blk_cell hD 1
  have X2 : w.cell? ⟨D, 2, none⟩ = some (.int .i32 ex) := blk_cell hD 2
  have HBL := Lib.hid (intBitLen D 3 t _ xn A c l (by omega) hd w hr hD ⟨rfl, rfl⟩)
  rcases Nat.eq_zero_or_pos l.length with h0 | h0
  · obtain rfl : l = [] := List.eq_nil_of_length_eq_zero h0
    have HF := Lib.hid (fill_nil D 3 t _ xn A c w hD ⟨rfl, rfl⟩)
    rw [bitL_zero] at HBL
    clear hr hA hD hl hd hnr h0
    go_enter Try.func22, Try.ntmps22
    go_wp2_with fail
    refine HBL.out.mono ?_
    rintro e w' ⟨rfl, rfl⟩
    go_wp2_with fail
    refine HF.out.mono ?_
    rintro e w' ⟨rfl, rfl⟩
    go_wp2_with fail
    refine bodyPost_ret (results_tmp4 rfl _ _ _) rfl ?_
    exact ⟨none, 0, rfl, Nat.le_refl _, ⟨rfl, by decide, fun h => absurd h (by decide)⟩, Below.refl _ _⟩
  · have HF := Lib.hid (bigBytesOf D 3 t _ xn A c l h0 hl hd hnr w hr hA hD ⟨rfl, rfl⟩)
    have hp := bitL_pos hd hnr h0
    have hle := bitL_le l
    obtain ⟨L, hL⟩ : ∃ L, L = bitL l := ⟨_, rfl⟩
    rw [← hL] at HBL hp hle
    have hL6400 : L ≤ 6400 := by omega
    clear hr hA hD hl hd hnr h0 hL hle
    go_enter Try.func22, Try.ntmps22
    go_wp2_with fail
    refine HBL.out.mono ?_
    rintro e w' ⟨rfl, rfl⟩
    go_wp2_with fail
    refine HF.out.mono ?_
    rintro e w' ⟨ad, cc, rfl, h1, h2, h3⟩
    have HO : Hid (DecoOut neg ex l w (.returned (.tuple #[.int .u8 0, .bool neg, .slice (some ad) (bl l).length cc, .int .i32 ex])) w') := Lib.hid ⟨some ad, cc, rfl, h1, h2, h3⟩
    clear h1 h2 h3
    go_wp2_with fail
    refine bodyPost_ret (results_tmp4 rfl _ _ _) rfl ?_
    exact HO.out
end Go.Proofs.Ytdfcomilhjoooaa.Byt
namespace Go.Proofs.Ytdfcomilhjoooaa.Byt
open Go.RowKit Go.Proofs.YtdfcomilhjoooaaW.PrintWords Go.Proofs.Ytdfcomilhjoooaa.Base Go.Proofs.Ytdfcomilhjoooaa.Num Go.Proofs.Ytdfcomilhjoooaa.Be
set_option linter.unusedVariables false

def DecoPost (fo : Int) (neg : Bool) (b : List Int) (ex : Int) (w1 : World) (e : Ending) (w2 : World) : Prop :=
  ∃ B cc, e = .returned (.tuple #[.int .u8 fo, .bool neg, .slice B b.length cc, .int .i32 ex]) ∧ b.length ≤ cc ∧ ReadsInt w2 .u8 B b.length b ∧ Below w1.heap.size w1 w2
def MadeDeco (v : Value) (fo : Int) (neg : Bool) (b : List Int) (ex : Int) (W : World) : Prop :=
  Calls Try.prog 16 #[v] W fun e w1 => ∃ D, e = .returned (.pointer (some ⟨D, 0, none⟩)) ∧ Below W.heap.size W w1 ∧ Calls Try.prog 22 #[.pointer (some ⟨D, 0, none⟩), .slice none 0 0] w1 fun e w2 => DecoPost fo neg b ex w1 e w2

theorem madeDeco_spec (f : Int) (hf : f = 1 ∨ f = 3) (neg : Bool) (W : World) : MadeDeco (.agg #[.int .i64 f, .bool neg, .slice none 0 0, .int .i64 0]) (if f = 1 then 1 else 2) neg [] 0 W := by
  have key : ∀ w1, Below W.heap.size W w1 → ∀ D v2 v3 v4 v5, w1.heap[D]? = some (.cells #[.int .i8 f, .bool neg, v2, v3, v4, v5] 67 (0, 0)) →
      Calls Try.prog 22 #[.pointer (some ⟨D, 0, none⟩), .slice none 0 0] w1 fun e w2 => DecoPost (if f = 1 then 1 else 2) neg [] 0 w1 e w2 := by
    intro w1 hb D v2 v3 v4 v5 hD
    refine (deco_spec f hf D _ neg v2 v3 v4 v5 w1 hD).mono ?_
    rintro e w2 ⟨rfl, rfl⟩
    exact ⟨none, 0, rfl, Nat.le_refl _, ⟨rfl, by decide, fun h => absurd h (by decide)⟩, Below.refl _ _⟩
  rcases hf with rfl | rfl
  · refine (madeInf_any neg W).mono ?_
    rintro e w1 ⟨rfl, rfl⟩
    have hb := below_alloc (below_alloc (Below.refl W.heap.size W) (.cells #[.int .i64 1, .bool neg, .slice none 0 0, .int .i64 0] 31)) (.cells #[.int .i8 1, .bool neg, .int .i32 0, .bool false, .slice none 0 0, .bool false] 67)
    have := blk_new (W.alloc (.cells #[.int .i64 1, .bool neg, .slice none 0 0, .int .i64 0] 31)) (.cells #[.int .i8 1, .bool neg, .int .i32 0, .bool false, .slice none 0 0, .bool false] 67)
    rw [World.size_alloc] at this
    exact ⟨_, rfl, hb, key _ hb _ _ _ _ _ this⟩
  · refine (madeQuiet_any neg W).mono ?_
    rintro e w1 ⟨rfl, rfl⟩
    have hb := below_alloc (below_alloc (Below.refl W.heap.size W) (.cells #[.int .i64 3, .bool neg, .slice none 0 0, .int .i64 0] 31)) (.cells #[.int .i8 3, .bool neg, .int .i32 0, .bool false, .slice none 0 0, .bool false] 67)
    have := blk_new (W.alloc (.cells #[.int .i64 3, .bool neg, .slice none 0 0, .int .i64 0] 31)) (.cells #[.int .i8 3, .bool neg, .int .i32 0, .bool false, .slice none 0 0, .bool false] 67)
    rw [World.size_alloc] at this
    exact ⟨_, rfl, hb, key _ hb _ _ _ _ _ this⟩
theorem madeDeco_fin (neg : Bool) (ex : Int) (h0 : -2147483648 ≤ ex) (h1 : ex ≤ 2147483647) (A : Option Addr) (c : Nat) (l : List Int) (hl : l.length ≤ 100) (hd : Dig (2 ^ 64) l) (hnr : Nrm l) (W : World) (hr : ReadsInt W .u64 A l.length l) :
    MadeDeco (.agg #[.int .i64 0, .bool neg, .slice A l.length c, .int .i64 ex]) 0 neg (bl l) ex W := by
  refine (made_any neg ex h0 h1 A c l (by omega) W hr).mono ?_
  rintro e w1 ⟨D, A', c', rfl, hD, hb, hown, hc, hA, hbel⟩
  rw [nlTo_of_nrm hnr] at hb hown
  rw [List.take_length] at hown
  refine ⟨D, rfl, hbel, ?_⟩
  obtain ⟨A2, c2, e2, _, _, _, h5⟩ := own_form hown
  injection e2 with e2 _ e3
  subst e2; subst e3
  exact deco_fin D _ neg false false ex A' c' l hl hd hnr w1 (own_reads' hown) (fun a ha => (h5 a ha).1) hb

/-- what impl.Decompose gives -/
def ImpDecoOut (fo : Int) (neg : Bool) (b : List Int) (ex : Int) (w : World) (e : Ending) (w' : World) : Prop :=
  ∃ B cc, e = .returned (.tuple #[.int .i64 fo, .bool neg, .slice (some B) b.length cc, .int .i64 ex]) ∧ b.length ≤ cc ∧ ReadsInt w' .u8 (some B) b.length b ∧ Below w.heap.size w w'
theorem impDeco_out {fo ex : Int} {neg : Bool} {b : List Int} {w w1 w2 w3 w4 : World} {v : Value} {o : Obj} (hb1 : Below (w.alloc o).heap.size (w.alloc o) w1) (hb2 : Below w1.heap.size w1 w2) (hc : Copied w w2 b v w4) (he : w4 = w3) :
    ImpDecoOut fo neg b ex w (.returned (.tuple #[.int .i64 fo, .bool neg, v, .int .i64 ex])) w3 := by
  subst he
  obtain ⟨ad, c, rfl, k2, k3, k4, _, k6, k7⟩ := hc
  refine ⟨ad, c, rfl, k2, k3, ?_⟩
  have s0 : (w.alloc o).heap.size = w.heap.size + 1 := by simp
  have s1 := hb1.size
  have s2 := hb2.size
  exact (((below_alloc (Below.refl _ _) o).trans (hb1.mono (by omega))).trans (hb2.mono (by omega))).trans (k7.mono (by omega))

set_option maxHeartbeats 2000000 in
set_option maxRecDepth 100000 in
theorem impDeco_any (f : Int) (ng : Bool) (A : Option Addr) (n c : Nat) (e0 : Int) (fo : Int) (hfo : fo = 0 ∨ fo = 1 ∨ fo = 2) (neg : Bool) (b : List Int) (hbl : b.length ≤ 1000) (ex : Int) (h0 : -2147483648 ≤ ex) (h1 : ex ≤ 2147483647) (w : World)
    (H : MadeDeco (.agg #[.int .i64 f, .bool ng, .slice A n c, .int .i64 e0]) fo neg b ex (w.alloc (.cells #[.int .i64 f, .bool ng, .slice A n c, .int .i64 e0] 31))) :
    Calls Try.prog 13 #[.agg #[.int .i64 f, .bool ng, .slice A n c, .int .i64 e0]] w fun e w' => ImpDecoOut fo neg b ex w e w' := by
  obtain ⟨i0, hi, hz0, hz1, hz2⟩ := info_parts infoB
  have HH := Lib.hid H
  have HBL := Lib.hid hbl
  clear H hbl
  go_enter Try.func13, Try.ntmps13
  go_wp2_with fail
  refine HH.out.mono ?_
  rintro e w1 ⟨D, rfl, hb1, hdec⟩
  have HD := Lib.hid hdec
  have HB1 := Lib.hid hb1
  clear hdec hb1 HH
  go_wp2_with fail
  refine HD.out.mono ?_
  rintro e w2 ⟨B, cc, rfl, hcc, hr2, hb2⟩
  have HR2 := Lib.hid hr2
  have HB2 := Lib.hid hb2
  have HS2 : Hid (w.heap.size + 1 ≤ w2.heap.size) := Lib.hid (by have h1 := HB1.out.size; have h2 := hb2.size; simp at h1; omega)
  clear hr2 hb2 HD
  rcases B with _ | ad
  · obtain rfl : b = [] := by
      rcases Nat.eq_zero_or_pos b.length with h | h
      · exact List.eq_nil_of_length_eq_zero h
      · obtain ⟨a, h, _⟩ := HR2.out.2.2 h; cases h
    have HC := Lib.hid (copied_none HS2.out)
    have HO := Lib.hid (fun (w3 : World) (he : w2.alloc (.cells #[] 5) = w3) => impDeco_out (fo := fo) (neg := neg) (ex := ex) HB1.out HB2.out HC.out he)
    clear HR2
    go_wp2_with (first | (at_builtin; refine wpList_append_own_none rfl _ _ 22 rfl (w.heap.size + 1) 5 i0 1 Try.underlying22 hi _ 0 (nums .u8 []) rfl (own_empty (blk_new w2 _) HS2.out) rfl ?_))
    rcases hfo with rfl | rfl | rfl
    all_goals go_wp2_with fail
    all_goals refine bodyPost_ret (results_tmp4 rfl _ _ _) rfl ?_
    all_goals exact HO.out _ rfl
  · have hcell : ∀ W' : World, ReadsInt W' .u8 (some ad) b.length b → ∀ j u, (nums .u8 b)[j]? = some u → W'.cell? (ad.add j) = some u := by
      intro W' hr j u hj
      simp only [nums, List.getElem?_map, Option.map_eq_some_iff] at hj
      obtain ⟨x, hx, rfl⟩ := hj
      have hl : j < b.length := by
        rcases Nat.lt_or_ge j b.length with h | h
        · exact h
        · rw [List.getElem?_eq_none h] at hx; cases hx
      obtain ⟨ad', e, hc⟩ := hr.2.2 (by omega)
      cases e
      rw [hc j hl, List.getD_eq_getElem?_getD, hx]
      rfl
    have HCELL := Lib.hid hcell
    clear hcell
    rcases hfo with rfl | rfl | rfl
    all_goals go_wp2_with (first | (at_builtin; refine wpList_append_own _ rfl _ _ 22 rfl (w.heap.size + 1) 5 i0 (.int .u8 0) 1 1 Try.underlying22 hi hz0 hz1 hz2 rfl (by decide) _ 0 (nums .u8 []) rfl (own_empty (blk_new w2 _) HS2.out) ad b.length cc (nums .u8 b) rfl (by rw [nums_length, Nat.mul_one]) (HCELL.out _ (HR2.out.below (below_alloc (Below.refl _ _) _))) (nums_one .u8 b) (by have := HBL.out; unfold maxLen; omega) (by have := HBL.out; omega) (by have := HS2.out; simp; omega) ?_; intro v' w4 hown' hgrow hnil))
    all_goals have hcp := copied_own (w := w) HS2.out hown' hgrow hnil
    all_goals have HO := Lib.hid (fun (fo : Int) (w3 : World) (he : w4 = w3) => impDeco_out (fo := fo) (neg := neg) (ex := ex) HB1.out HB2.out hcp he)
    all_goals obtain ⟨ad4, c4, rfl, -⟩ := hcp
    all_goals clear hown' hgrow hnil
    all_goals go_wp2_with fail
    all_goals refine bodyPost_ret (results_tmp4 rfl _ _ _) rfl ?_
    all_goals exact HO.out _ _ rfl
end Go.Proofs.Ytdfcomilhjoooaa.Byt
namespace Go.Proofs.Ytdfcomilhjoooaa.Be
open Go.RowKit Go.Proofs.YtdfcomilhjoooaaW.PrintWords Go.Proofs.Ytdfcomilhjoooaa.Base Go.Proofs.Ytdfcomilhjoooaa.Num
set_option linter.unusedVariables false

/-- a Decimal of the form f -/
def Dec12 (B D : Nat) (w w' : World) (f : Int) (neg : Bool) : Prop :=
  ∃ v2 v3 v4 v5, w'.heap[D]? = some (.cells #[.int .i8 f, .bool neg, v2, v3, v4, v5] 67 (0, 0)) ∧ Below B w w'

theorem decComp12 (fo f : Int) (hf : (fo = 1 ∧ f = 1) ∨ (fo = 2 ∧ f = 3)) (B D : Nat) (v0 v1 v2 v3 v4 v5 : Value) (neg : Bool) (v : Value) (ex : Int) (w : World) (hB : B ≤ D)
    (hb : w.heap[D]? = some (.cells #[v0, v1, v2, v3, v4, v5] 67 (0, 0))) :
    Calls Try.prog 17 #[.pointer (some ⟨D, 0, none⟩), .int .u8 fo, .bool neg, v, .int .i32 ex] w fun e w' => e = .returned .nilIface ∧ Dec12 B D w w' f neg := by
  have X0 : w.cell? ⟨D, 0, none⟩ = some v0 := blk_cell hb 0
  have F0 := blk_frozen hb 0
  have X1 : w.cell? ⟨D, 1, none⟩ = some v1 := blk_cell hb 1
  have F1 := blk_frozen hb 1
  have HO : ∀ z, Hid (Dec12 B D w ((w.setCell ⟨D, 0, none⟩ (.int .i8 z)).setCell ⟨D, 1, none⟩ (.bool neg)) z neg) := fun z => Lib.hid ⟨v2, v3, v4, v5, blk_set (blk_set hb 0 _) 1 _, ((Below.refl _ _).setCell hB _).setCell hB _⟩
  clear hb
  rcases hf with ⟨rfl, rfl⟩ | ⟨rfl, rfl⟩
  · go_enter Try.func17, Try.ntmps17
    go_wp2_with fail
    go_ret
    exact ⟨rfl, (HO 1).out⟩
  · go_enter Try.func17, Try.ntmps17
    go_wp2_with fail
    go_ret
    exact ⟨rfl, (HO 3).out⟩

set_option maxRecDepth 100000 in
set_option maxHeartbeats 2000000 in
theorem told12 (f : Int) (hf : f = 1 ∨ f = 3) (D t : Nat) (neg : Bool) (v2 v3 v4 v5 : Value) (w : World) (hD : w.heap[D]? = some (.cells #[.int .i8 f, .bool neg, v2, v3, v4, v5] t (0, 0))) :
    Calls Try.prog 18 #[.pointer (some ⟨D, 0, none⟩)] w fun e w' => e = .returned (.agg #[.int .i64 f, .bool neg, .slice none 0 0, .int .i64 0]) ∧ Below w.heap.size w w' := by
  have X0 : (w.alloc (.cells #[.int .i64 0, .bool false, .slice none 0 0, .int .i64 0] 31)).cell? ⟨D, 1, none⟩ = some (.bool neg) := blk_cell (blk_alloc hD _) 1
  have X1 : ((w.alloc (.cells #[.int .i64 0, .bool false, .slice none 0 0, .int .i64 0] 31)).alloc (.cells #[.int .i64 0, .bool neg, .slice none 0 0, .int .i64 0] 31)).cell? ⟨D, 0, none⟩ = some (.int .i8 f) := blk_cell (blk_alloc (blk_alloc hD _) _) 0
  clear hD
  rcases hf with rfl | rfl
  all_goals go_enter Try.func18, Try.ntmps18
  all_goals go_wp2_with fail
  all_goals refine bodyPost_ret (results_cell_row rfl _ _ w.heap.size 31 _ (0, 0) _ rfl (blk_alloc (blk_new w _) _) Try.underlying31 rfl (by kernel_rfl)) rfl ?_
  all_goals exact ⟨rfl, by go_grown⟩

theorem chain12 {w W w2 w4 w5 w6 : World} {D : Nat} {b : List Int} {v : Value} {f : Int} {neg : Bool} {o : Obj} (hbw : Below w.heap.size w W) (hs : W.heap.size = w.heap.size + 2) (hR : W.heap[w.heap.size]? = some o) (hM : Made7 W w2 D) (hcp : Copied w w2 b v w4) (hd : Dec12 (w.heap.size + 1) D w4 w5 f neg) (hb : Below w5.heap.size w5 w6) :
    w6.heap[w.heap.size]? = some o ∧ Below w.heap.size w w6 := by
  obtain ⟨g, cur, c', h1, h2, h3, h4, h5, h6, h7⟩ := hM
  obtain ⟨ad, c, rfl, k2, k3, k4, ⟨curb, k5⟩, k6, k7⟩ := hcp
  obtain ⟨v2, v3, v4, v5, m1, m4⟩ := hd
  have s2 := h7.size
  have s4 := k7.size
  have s5 := m4.size
  refine ⟨?_, ?_⟩
  · have r4 := blk_below (blk_below hR h7) k7
    have r5 := (m4.block _ (by omega)).trans r4
    exact blk_below r5 hb
  · exact (((hbw.trans (h7.mono (by omega))).trans (k7.mono (by omega))).trans (m4.mono (by omega))).trans (hb.mono (by omega))
theorem dec_call12 {w W w2 w4 : World} {D : Nat} {b : List Int} {v : Value} (fo f : Int) (hf : (fo = 1 ∧ f = 1) ∨ (fo = 2 ∧ f = 3)) (neg : Bool) (ex : Int) (hs : W.heap.size = w.heap.size + 2) (hM : Made7 W w2 D) (hcp : Copied w w2 b v w4) :
    Calls Try.prog 17 #[.pointer (some ⟨D, 0, none⟩), .int .u8 fo, .bool neg, v, .int .i32 ex] w4 fun e w' => e = .returned .nilIface ∧ Dec12 (w.heap.size + 1) D w4 w' f neg := by
  obtain ⟨g, cur, c', h1, h2, h3, h4, h5, h6, h7⟩ := hM
  obtain ⟨ad, c, rfl, k2, k3, k4, ⟨curb, k5⟩, k6, k7⟩ := hcp
  exact decComp12 fo f hf (w.heap.size + 1) D _ _ _ _ _ _ neg _ ex w4 (by omega) (blk_below h2 k7)
theorem told_dec12 {w w4 w5 : World} {D B : Nat} {neg : Bool} {f : Int} (hf : f = 1 ∨ f = 3) (h : Dec12 B D w4 w5 f neg) :
    Calls Try.prog 18 #[.pointer (some ⟨D, 0, none⟩)] w5 fun e w' => e = .returned (.agg #[.int .i64 f, .bool neg, .slice none 0 0, .int .i64 0]) ∧ Below w5.heap.size w5 w' := by
  obtain ⟨v2, v3, v4, v5, k1, _⟩ := h
  exact told12 f hf D _ neg v2 v3 v4 v5 w5 k1

set_option maxRecDepth 100000 in
set_option maxHeartbeats 2000000 in
theorem compose12 (fo f : Int) (hf : (fo = 1 ∧ f = 1) ∨ (fo = 2 ∧ f = 3)) (neg : Bool) (ad : Addr) (cb : Nat) (b : List Int) (ex : Int) (h0 : -2147483648 ≤ ex) (h1 : ex ≤ 2147483647) (hb : b.length ≤ 100) (w : World) (hr : ReadsInt w .u8 (some ad) b.length b) :
    Calls Try.prog 8 #[.int .i64 fo, .bool neg, .slice (some ad) b.length cb, .int .i64 ex] w fun e w' => e = .returned (.tuple #[.agg #[.int .i64 f, .bool neg, .slice none 0 0, .int .i64 0], .bool true]) ∧ Below w.heap.size w w' := by
  have d1 : decide (ex < -2147483648) = false := decide_eq_false (by omega)
  have d2 : decide (2147483647 < ex) = false := decide_eq_false (by omega)
  obtain ⟨i0, hi, hz0, hz1, hz2⟩ := info_parts infoB
  obtain ⟨W, hW⟩ : ∃ W, W = (w.alloc (.cells #[.int .i64 0, .bool false, .slice none 0 0, .int .i64 0] 31)).alloc (.cells #[.int .u64 7] 49) := ⟨_, rfl⟩
  have HWE := Lib.hid hW
  have hg : W.heap[w.heap.size + 1]? = some (.cells #[.int .u64 7] 49 (0, 0)) := by
    rw [hW]; have := blk_new (w.alloc (.cells #[.int .i64 0, .bool false, .slice none 0 0, .int .i64 0] 31)) (.cells #[.int .u64 7] 49); rw [World.size_alloc] at this; exact this
  have HRes : Hid (W.heap[w.heap.size]? = some (.cells #[.int .i64 0, .bool false, .slice none 0 0, .int .i64 0] 31 (0, 0))) := Lib.hid (by rw [hW]; exact blk_alloc (blk_new w _) _)
  have HBW : Hid (Below w.heap.size w W) := Lib.hid (by rw [hW]; go_grown)
  have HSZ : Hid (W.heap.size = w.heap.size + 2) := Lib.hid (by rw [hW]; simp)
  have HM := Lib.hid (made7 _ W hg)
  have HR := Lib.hid hr
  have HB := Lib.hid hb
  have HX0 := Lib.hid h0
  have HX1 := Lib.hid h1
  clear hW hg hr hb
  have hcell : ∀ W' : World, ReadsInt W' .u8 (some ad) b.length b → ∀ j u, (nums .u8 b)[j]? = some u → W'.cell? (ad.add j) = some u := by
    intro W' hr j u hj
    simp only [nums, List.getElem?_map, Option.map_eq_some_iff] at hj
    obtain ⟨x, hx, rfl⟩ := hj
    have hl : j < b.length := by
      rcases Nat.lt_or_ge j b.length with h | h
      · exact h
      · rw [List.getElem?_eq_none h] at hx; cases hx
    obtain ⟨ad', e, hc⟩ := hr.2.2 (by omega)
    cases e
    rw [hc j hl, List.getD_eq_getElem?_getD, hx]
    rfl
  have HCELL := Lib.hid hcell
  clear hcell
  rcases hf with ⟨rfl, rfl⟩ | ⟨rfl, rfl⟩
  all_goals
    go_enter Try.func8, Try.ntmps8
    go_wp2_with fail
    rw [← HWE.out]
    refine HM.out.mono ?_
    rintro e w2 ⟨D, rfl, hM⟩
    have HM2 := Lib.hid hM
    clear hM HM
    have hbel2 := HM2.out.choose_spec.choose_spec.choose_spec.2.2.2.2.2.2
    have HS2 : Hid (w.heap.size + 1 ≤ w2.heap.size) := Lib.hid (by have := hbel2.size; have := HSZ.out; omega)
    have HR2 : Hid (ReadsInt w2 .u8 (some ad) b.length b) := Lib.hid ((HR.out.below HBW.out).below hbel2)
    clear hbel2
    go_wp2_with (first | (at_builtin; refine wpList_append_own _ rfl _ _ 22 rfl (w.heap.size + 1) 5 i0 (.int .u8 0) 1 1 Try.underlying22 hi hz0 hz1 hz2 rfl (by decide) _ 0 (nums .u8 []) rfl (own_empty (blk_new w2 _) HS2.out) ad b.length cb (nums .u8 b) rfl (by rw [nums_length, Nat.mul_one]) (HCELL.out _ (HR2.out.below (below_alloc (Below.refl _ _) _))) (nums_one .u8 b) (by have := HB.out; unfold maxLen; omega) (by have := HB.out; omega) (by have := HS2.out; simp; omega) ?_; intro v' w4 hown' hgrow hnil))
    have hcp := copied_own (w := w) HS2.out hown' hgrow hnil
    have HCP := Lib.hid hcp
    obtain ⟨ad4, c4, rfl, -⟩ := hcp
    clear hown' hgrow hnil
    go_wp2_with fail
    refine (dec_call12 _ _ (by first | exact .inl ⟨rfl, rfl⟩ | exact .inr ⟨rfl, rfl⟩) neg ex HSZ.out HM2.out HCP.out).mono ?_
    rintro e w5 ⟨rfl, hdc⟩
    have HDC := Lib.hid hdc
    clear hdc
    go_wp2_with fail
    refine (told_dec12 (w := w) (by simp) HDC.out).mono ?_
    rintro e w6 ⟨rfl, hb6⟩
    obtain ⟨hres, hbel⟩ := chain12 HBW.out HSZ.out HRes.out HM2.out HCP.out HDC.out hb6
    have Q0 := blk_cell hres 0
    have Q1 := blk_cell hres 1
    have Q2 := blk_cell hres 2
    have Q3 := blk_cell hres 3
    simp only [List.getElem?_toArray, List.getElem?_cons_zero, List.getElem?_cons_succ] at Q0 Q1 Q2 Q3
    have F0 := blk_frozen hres 0
    have F1 := blk_frozen hres 1
    have F2 := blk_frozen hres 2
    have F3 := blk_frozen hres 3
    have HRES := Lib.hid hres
    have HBEL := Lib.hid hbel
    clear hres hbel hb6
    go_wp2_with fail
    refine bodyPost_ret (results_ct rfl _ _ w.heap.size 31 _ (0, 0) _ rfl (blk_set (blk_set (blk_set (blk_set HRES.out 0 _) 1 _) 2 _) 3 _) Try.underlying31 rfl (by kernel_rfl)) rfl ?_
    exact ⟨rfl, (((HBEL.out.setCell (Nat.le_refl _) _).setCell (Nat.le_refl _) _).setCell (Nat.le_refl _) _).setCell (Nat.le_refl _) _⟩
end Go.Proofs.Ytdfcomilhjoooaa.Be
namespace Go.Proofs.Ytdfcomilhjoooaa.Byt
open Go.RowKit Go.Proofs.YtdfcomilhjoooaaW.PrintWords Go.Proofs.Ytdfcomilhjoooaa.Base
set_option linter.unusedVariables false

theorem equal_same (f : Int) (neg : Bool) (l : List Int) (e : Int) : ∀ (m i k : Nat), m + i = l.length → m < k → l.length ≤ 1000 → Pequal.laws_equal.l0 k (l.length : Int) (i : Int) f neg l e f neg l e = some true := by
  intro m
  induction m with
  | zero =>
    intro i k hi hk hl
    obtain ⟨k, rfl⟩ : ∃ j, k = j + 1 := ⟨k - 1, by omega⟩
    rw [Pequal.laws_equal.l0, if_neg (by omega)]
  | succ m ih =>
    intro i k hi hk hl
    obtain ⟨k, rfl⟩ : ∃ j, k = j + 1 := ⟨k - 1, by omega⟩
    have c1 : (i : Int) < (l.length : Int) := by omega
    have c2 : (0 : Int) ≤ (i : Int) := by omega
    have c3 : wrap64 ((i : Int) + 1) = ((i + 1 : Nat) : Int) := by rw [Spec.w64 (by omega) (by omega)]; omega
    rw [Pequal.laws_equal.l0, if_pos c1, if_pos c2, if_pos c1, if_pos c1, if_pos rfl, c3]
    exact ih (i + 1) k (by omega) (by omega) hl
theorem equal_c (f : Int) (neg : Bool) (l : List Int) (e : Int) (hl : l.length ≤ 1000) (A1 A2 : Option Addr) (c1 c2 : Nat) (h1 : l.length ≤ c1) (h2 : l.length ≤ c2) (w : World) (r1 : ReadsInt w .u64 A1 l.length l) (r2 : ReadsInt w .u64 A2 l.length l) :
    Calls Try.prog 14 #[.agg #[.int .i64 f, .bool neg, .slice A1 l.length c1, .int .i64 e], .agg #[.int .i64 f, .bool neg, .slice A2 l.length c2, .int .i64 e]] w fun x w' => x = .returned (.bool true) ∧ Below w.heap.size w w' := by
  refine Pequal.laws_equal.calls (l.length + 2) f neg A1 c1 l e f neg A2 c2 l e true w (Kd.C_of_reads (readsInt_of.1 r1)) h1 (Kd.C_of_reads (readsInt_of.1 r2)) h2 ?_
  rw [Pequal.laws_equal.f, if_pos rfl, if_neg (by simp), if_pos rfl, Pequal.laws_equal.j0, if_neg (by simp)]
  exact equal_same f neg l e l.length 0 (l.length + 1) (by omega) (by omega) hl

/-- what ofKind makes of an x -/
def ofK (k : Int) (neg : Bool) (x : Value) : Value :=
  if k = 0 then x else if k = 1 then .agg #[.int .i64 1, .bool neg, .slice none 0 0, .int .i64 0] else .agg #[.int .i64 3, .bool neg, .slice none 0 0, .int .i64 0]

theorem inf_any' (neg : Bool) (w : World) :
    Calls Try.prog 21 #[.bool neg] w fun x w' => x = .returned (.agg #[.int .i64 1, .bool neg, .slice none 0 0, .int .i64 0]) ∧ w.alloc (.cells #[.int .i64 1, .bool neg, .slice none 0 0, .int .i64 0] 31) = w' := by
  go_enter Try.func21, Try.ntmps21
  go_wp2_with fail
  refine bodyPost_ret (results_cell_row rfl _ _ w.heap.size 31 _ (0, 0) _ rfl (blk_new w _) Try.underlying31 rfl (by kernel_rfl)) rfl ?_
  exact ⟨rfl, rfl⟩

theorem new_second (w : World) (o o2 : Obj) : ((w.alloc o).alloc o2).heap[w.heap.size + 1]? = some o2 := by
  have := blk_new (w.alloc o) o2
  rw [World.size_alloc] at this
  exact this
set_option maxRecDepth 100000 in
set_option maxHeartbeats 2000000 in
theorem ofKind_any (k : Int) (hk : k = 0 ∨ k = 1 ∨ k = 3) (neg : Bool) (f : Int) (ng : Bool) (A : Option Addr) (n c : Nat) (e : Int) (w : World) :
    Calls Try.prog 12 #[.int .u8 k, .bool neg, .agg #[.int .i64 f, .bool ng, .slice A n c, .int .i64 e]] w fun x w' => x = .returned (ofK k neg (.agg #[.int .i64 f, .bool ng, .slice A n c, .int .i64 e])) ∧ Below w.heap.size w w' := by
  rcases hk with rfl | rfl | rfl
  · go_enter Try.func12, Try.ntmps12
    go_wp2_with fail
    refine bodyPost_ret (results_cell_row rfl _ _ (w.heap.size + 1) 31 _ (0, 0) _ rfl (new_second w _ _) Try.underlying31 rfl (by kernel_rfl)) rfl ?_
    exact ⟨rfl, by go_grown⟩
  · go_enter Try.func12, Try.ntmps12
    go_wp2_with fail
    refine (inf_any' neg _).mono ?_
    rintro x w' ⟨rfl, rfl⟩
    go_wp2_with fail
    refine bodyPost_ret (results_cell_row rfl _ _ (w.heap.size + 1) 31 _ (0, 0) _ rfl (blk_alloc (new_second w _ _) _) Try.underlying31 rfl (by kernel_rfl)) rfl ?_
    exact ⟨rfl, by go_grown⟩
  · go_enter Try.func12, Try.ntmps12
    go_wp2_with fail
    refine bodyPost_ret (results_cell_row rfl _ _ (w.heap.size + 1) 31 _ (0, 0) _ rfl (new_second w _ _) Try.underlying31 rfl (by kernel_rfl)) rfl ?_
    exact ⟨rfl, by go_grown⟩
end Go.Proofs.Ytdfcomilhjoooaa.Byt
namespace Go.Proofs.Ytdfcomilhjoooaa.Byt
open Go.RowKit Go.Proofs.YtdfcomilhjoooaaW.PrintWords Go.Proofs.Ytdfcomilhjoooaa.Base Go.Proofs.Ytdfcomilhjoooaa.Num Go.Proofs.Ytdfcomilhjoooaa.Be
set_option linter.unusedVariables false

def CbOut (w : World) (x : Ending) (w' : World) : Prop := x = .returned (.bool true) ∧ Below w.heap.size w w'
theorem words_back {l : List Int} (hd : Dig (2 ^ 64) l) (hn : Nrm l) : Ws (bl l) = l :=
  Rep.uniq (B := 2 ^ 64) (V := bew (bl l)) (by decide) (wsB_rep (bl_dig l)) ⟨hd, hn, (bl_bew hd).symm⟩

/-- the kinds' slice; the Dec that is made room for -/
abbrev oS : Obj := .cells #[.int .u8 0, .int .u8 1, .int .u8 3] 5
abbrev oR : Obj := .cells #[.int .i64 0, .bool false, .slice none 0 0, .int .i64 0] 31
theorem ok_below {w w3 u w4 : World} (hb : Below w.heap.size w w3) (h : Below u.heap.size u w4) (hu : Below w3.heap.size w3 u := by first | exact below_drew (below_alloc (Below.refl _ _) _) | exact below_drew (below_alloc (below_alloc (Below.refl _ _) _) _)) : Below w.heap.size w w4 :=
  hb.trans ((hu.mono hb.size).trans (h.mono (Nat.le_trans hb.size hu.size)))
theorem ok_sr {w3 w4 : World} (h : Below ((w3.alloc oS).alloc oR).drew.heap.size ((w3.alloc oS).alloc oR).drew w4) : w4.heap[w3.heap.size + 1]? = some oR := blk_below (w := ((w3.alloc oS).alloc oR).drew) (new_second w3 oS oR) h
theorem ok_rs {w3 w4 : World} (h : Below ((w3.alloc oR).alloc oS).drew.heap.size ((w3.alloc oR).alloc oS).drew w4) : w4.heap[w3.heap.size]? = some oR := blk_below (w := ((w3.alloc oR).alloc oS).drew) (blk_alloc (blk_new w3 oR) oS) h

theorem below_of_alloc {w w1 w2 : World} {o : Obj} (h : Below w.heap.size w w1) (h2 : Below (w1.alloc o).heap.size (w1.alloc o) w2) : Below w.heap.size w w2 :=
  (h.alloc h.size o).trans (h2.mono (by have := h.size; simp; omega))
/-- where the Dec of the kind lies, behind the region that makes it -/
def CutR (w : World) (cs : Array Value) (v : Value) (wx : World) : Prop := ∃ G, v = .pointer (some ⟨G, 0, none⟩) ∧ wx.heap[G]? = some (.cells cs 31 (0, 0)) ∧ Below w.heap.size w wx
theorem set4 {w4 : World} {G : Nat} (h : w4.heap[G]? = some oR) (a b c d : Value) : ((((w4.setCell ⟨G, 0, none⟩ a).setCell ⟨G, 1, none⟩ b).setCell ⟨G, 2, none⟩ c).setCell ⟨G, 3, none⟩ d).heap[G]? = some (.cells #[a, b, c, d] 31 (0, 0)) :=
  blk_set (blk_set (blk_set (blk_set h 0 a) 1 b) 2 c) 3 d
theorem below4 {w w4 : World} {G : Nat} (h : Below w.heap.size w w4) (hG : w.heap.size ≤ G) (a b c d : Value) : Below w.heap.size w ((((w4.setCell ⟨G, 0, none⟩ a).setCell ⟨G, 1, none⟩ b).setCell ⟨G, 2, none⟩ c).setCell ⟨G, 3, none⟩ d) :=
  (((h.setCell hG _).setCell hG _).setCell hG _).setCell hG _
theorem deco_c0 {w : World} {neg : Bool} {A : Option Addr} {c : Nat} {l : List Int} {e : Int} (hr : ReadsInt w .u64 A l.length l) (hd : Dig (2 ^ 64) l) (hn : Nrm l) (hl : l.length ≤ 3) (h0 : -100 ≤ e) (h1 : e ≤ 100) :
    ∀ u, Below w.heap.size w u → Calls Try.prog 13 #[.agg #[.int .i64 0, .bool neg, .slice A l.length c, .int .i64 e]] u fun x w' => ImpDecoOut 0 neg (bl l) e u x w' := by
  intro u hu
  have hbl : (bl l).length ≤ 1000 := by have h1 := nlTo_le (byts l) (8 * l.length); have h2 := bl_len l; omega
  exact impDeco_any 0 neg A l.length c e 0 (.inl rfl) neg (bl l) hbl e (by omega) (by omega) u (madeDeco_fin neg e (by omega) (by omega) A c l (by omega) hd hn _ ((hr.below hu).below (below_alloc (Below.refl _ _) _)))
theorem comp_c0 {neg : Bool} {l : List Int} {e : Int} (hd : Dig (2 ^ 64) l) (hn : Nrm l) (hl : l.length ≤ 3) (h0 : -100 ≤ e) (h1 : e ≤ 100) :
    ∀ u B cc, (bl l).length ≤ cc → ReadsInt u .u8 (some B) (bl l).length (bl l) → Calls Try.prog 8 #[.int .i64 0, .bool neg, .slice (some B) (bl l).length cc, .int .i64 e] u fun x w' =>
      ∃ A' c', x = .returned (.tuple #[.agg #[.int .i64 0, .bool neg, .slice A' l.length c', .int .i64 e], .bool true]) ∧ Below u.heap.size u w' ∧ ReadsInt w' .u64 A' l.length l ∧ l.length ≤ c' := by
  intro u B cc hcc hr
  have hbl : (bl l).length ≤ 100 := by have h1 := nlTo_le (byts l) (8 * l.length); have h2 := bl_len l; omega
  have h := compose0 neg (some B) cc (bl l) e (by omega) (by omega) hbl (bl_dig l) hcc u hr
  rw [words_back hd hn] at h
  exact h
theorem deco_c12 (f : Int) (hf : f = 1 ∨ f = 3) (w : World) (neg : Bool) :
    ∀ u, Below w.heap.size w u → Calls Try.prog 13 #[.agg #[.int .i64 f, .bool neg, .slice none 0 0, .int .i64 0]] u fun x w' => ImpDecoOut (if f = 1 then 1 else 2) neg [] 0 u x w' := by
  intro u hu
  exact impDeco_any f neg none 0 0 0 (if f = 1 then 1 else 2) (by rcases hf with rfl | rfl <;> simp) neg [] (by simp) 0 (by omega) (by omega) u (madeDeco_spec f hf neg _)
theorem comp_c12 (fo f : Int) (hf : (fo = 1 ∧ f = 1) ∨ (fo = 2 ∧ f = 3)) (neg : Bool) :
    ∀ u B cc, ([] : List Int).length ≤ cc → ReadsInt u .u8 (some B) ([] : List Int).length [] → Calls Try.prog 8 #[.int .i64 fo, .bool neg, .slice (some B) 0 cc, .int .i64 0] u fun x w' =>
      x = .returned (.tuple #[.agg #[.int .i64 f, .bool neg, .slice none 0 0, .int .i64 0], .bool true]) ∧ Below u.heap.size u w' := by
  intro u B cc hcc hr
  exact compose12 fo f hf neg B cc [] 0 (by omega) (by omega) (by simp) u hr

end Go.Proofs.Ytdfcomilhjoooaa.Byt
