/- FnGoError, first part: Condition.String tells some text for every sum of conditions below 4096, and errors.New a pointer. No condition beside the bound. -/
import Derived.Test.YtekhflejmbikmaaProg
import Derived.WalkKit
import Derived.WalkLawsBesides
import Derived.WalkSpells
import Derived.Handy
import Derived.StillTailTactics
import Derived.Deep.Draws
import Derived.KernelRfl
import Derived.Lib.Hide
import Derived.Laws.BitsLemmas
import Derived.Test.YtekhflejmbikmaaShelf
namespace Go.Proofs.Ytekhflejmbikmaa.GE
open Go.RowKit

theorem info9 : (Try.prog.info? 9).map (fun i => (i.zero, i.size, i.bytes)) = some (some (.string ByteArray.empty), 1, 16) := by kernel_rfl

theorem new_any (s : ByteArray) (w : World) :
    Calls Try.prog 30 #[.string s] w fun e w' => e = .returned (.iface 56 (.pointer (some ⟨w.heap.size, 0, none⟩))) ∧ Below w.heap.size w w' := by
  go_enter Try.func30, Try.ntmps30
  go_wp2
  go_ret
  exact ⟨rfl, by go_grown⟩

theorem and_pow (k c : Nat) : (2 ^ k * c) &&& 2 ^ k = 2 ^ k * (c % 2) := by
  apply Nat.eq_of_testBit_eq
  intro i
  rw [Nat.testBit_and, Nat.testBit_two_pow, Nat.testBit_two_pow_mul, Nat.testBit_two_pow_mul]
  by_cases h : k = i
  · subst h
    simp [Nat.testBit_zero]
  · by_cases hi : i ≥ k
    · obtain ⟨j, rfl⟩ : ∃ j, i = k + 1 + j := ⟨i - k - 1, by omega⟩
      have e : k + 1 + j - k = j + 1 := by omega
      rw [e]
      simp only [h, decide_false, Bool.and_false]
      rcases Nat.mod_two_eq_zero_or_one c with h2 | h2 <;> rw [h2] <;> simp [Nat.testBit_succ]
    · simp [h, hi]
theorem xor_pow (k d : Nat) : (2 ^ k * (2 * d + 1)) ^^^ 2 ^ k = 2 ^ (k + 1) * d := by
  apply Nat.eq_of_testBit_eq
  intro i
  rw [Nat.testBit_xor, Nat.testBit_two_pow, Nat.testBit_two_pow_mul, Nat.testBit_two_pow_mul]
  by_cases h : k = i
  · subst h
    have : ¬ k + 1 ≤ k := by omega
    simp [Nat.testBit_zero, this]
  · by_cases hi : i ≥ k
    · obtain ⟨j, rfl⟩ : ∃ j, i = k + 1 + j := ⟨i - k - 1, by omega⟩
      have e : k + 1 + j - k = j + 1 := by omega
      have e4 : k ≤ k + 1 + j := by omega
      have e2 : k + 1 + j - (k + 1) = j := by omega
      have e3 : (2 * d + 1) / 2 = d := by omega
      rw [e, e2]
      simp [h, Nat.testBit_succ, e3, e4]
    · have : ¬ i ≥ k + 1 := by omega
      simp [h, hi, this]

theorem u32_keeps (n : Int) (h0 : 0 ≤ n) (h1 : n < 2 ^ 32) : IntKind.u32.wrap n = n := by
  rw [IntKind.wrap_u32]; omega
theorem xor_nat (a b : Nat) (ha : a < 2 ^ 32) (hb : b < 2 ^ 32) : bits .xor .u32 (a : Int) (b : Int) = ((a ^^^ b : Nat) : Int) := by
  have h := Nat.xor_lt_two_pow ha hb
  have ha' : a % 2 ^ IntKind.u32.bits = a := Nat.mod_eq_of_lt ha
  have hb' : b % 2 ^ IntKind.u32.bits = b := Nat.mod_eq_of_lt hb
  simp only [bits, BitVec.ofInt_natCast, BitVec.toNat_xor, BitVec.toNat_ofNat, ha', hb']
  exact u32_keeps _ (by omega) (by omega)

/-- what a round does with the sum of conditions -/
theorem round_bit (k r : Nat) (hk : k < 12) (hr : r < 4096) (hd : r % 2 ^ k = 0) :
    ((bits .and .u32 r ((2 ^ k : Nat) : Int) == 0) = true ∧ r % 2 ^ (k + 1) = 0) ∨
    ((bits .and .u32 r ((2 ^ k : Nat) : Int) == 0) = false ∧ ∃ r' : Nat, bits .xor .u32 r ((2 ^ k : Nat) : Int) = (r' : Int) ∧ r' < 4096 ∧ r' % 2 ^ (k + 1) = 0) := by
  obtain ⟨c, rfl⟩ : ∃ c, r = 2 ^ k * c := ⟨r / 2 ^ k, by rw [Nat.mul_div_cancel' (Nat.dvd_of_mod_eq_zero hd)]⟩
  have hp : 2 ^ k < 4096 := Nat.pow_lt_pow_right (by decide) hk
  have h1 := (bits_nat .u32 32 (by decide) u32_keeps (2 ^ k * c) (2 ^ k) (by omega) (by omega)).1
  have h2 := xor_nat (2 ^ k * c) (2 ^ k) (by omega) (by omega)
  rw [h1, h2, and_pow]
  rcases Nat.mod_two_eq_zero_or_one c with hc | hc
  · refine .inl ⟨by rw [hc]; rfl, ?_⟩
    rw [Nat.pow_succ, Nat.mul_mod_mul_left, hc]; rfl
  · have hpos : 0 < 2 ^ k := Nat.pos_of_ne_zero (by simp)
    refine .inr ⟨?_, 2 ^ k * c ^^^ 2 ^ k, rfl, ?_, ?_⟩
    · rw [hc, beq_eq_false_iff_ne]; omega
    · exact Nat.xor_lt_two_pow (n := 12) hr hp
    · obtain ⟨d, rfl⟩ : ∃ d, c = 2 * d + 1 := ⟨c / 2, by omega⟩
      rw [xor_pow]; simp

theorem join_small (xs : List ByteArray) (hsz : ∀ s ∈ xs, s.size ≤ 19) (hl : xs.length ≤ 12) : (Lib.join (xs.map (·.data.toList)) (⟨#[44, 32]⟩ : ByteArray).data.toList).length ≤ 140737488355328 := by
  cases xs with
  | nil => simp [Lib.join]
  | cons x r =>
    rw [List.map_cons, Lib.join_cons]
    have h1 : x.data.toList.length ≤ 19 := by simpa using hsz x (by simp)
    have h2 : ∀ l : List ByteArray, (∀ s ∈ l, s.size ≤ 19) → (Lib.joinTail (⟨#[44, 32]⟩ : ByteArray).data.toList (l.map (·.data.toList))).length ≤ 21 * l.length := by
      intro l
      induction l with
      | nil => intro _; simp [Lib.joinTail]
      | cons y l ih =>
        intro h
        have := ih (fun s hs => h s (by simp [hs]))
        have hy : y.data.toList.length ≤ 19 := by simpa using h y (by simp)
        simp [Lib.joinTail] at this hy ⊢
        omega
    have := h2 r (fun s hs => hsz s (by simp [hs]))
    simp only [List.length_append, List.length_cons] at *
    omega

theorem new_one (w : World) (x : Value) (t : TypeId) : ∀ (j : Nat) (u : Value), [x][j]? = some u → (w.alloc (.cells #[x] t)).cell? ((⟨w.heap.size, 0, none⟩ : Addr).add j) = some u := by
  intro j u hj
  match j, hj with
  | 0, hj => simp at hj; subst hj; simp [Addr.add]

theorem round_app {w wr w1 : World} {o : Obj} {v v' : Value} {xs : List ByteArray} {s : ByteArray} (hbel : Below w.heap.size w wr)
    (hown' : w1.ownsRow w.heap.size 9 1 v' (xs.length + 1) (xs.map Value.string ++ [Value.string s])) (hg : (wr.alloc o).grownBy w1 v.ownBlock)
    (hsz : ∀ s ∈ xs, s.size ≤ 19) (hs : s.size ≤ 19) (hown : wr.ownsRow w.heap.size 9 1 v xs.length (xs.map Value.string)) :
    w1.ownsRow w.heap.size 9 1 v' (xs ++ [s]).length ((xs ++ [s]).map Value.string) ∧ (∀ x ∈ xs ++ [s], x.size ≤ 19) ∧ Below w.heap.size w w1 := by
  refine ⟨by simpa using hown', ?_, ?_⟩
  · intro x hx
    rcases List.mem_append.1 hx with h | h
    · exact hsz x h
    · rw [List.mem_singleton.1 h]; exact hs
  · exact (hbel.alloc hbel.size o).grown hg (by have := hbel.size; simp; omega) (fun k hk => (hown.lt k hk).1)

set_option maxHeartbeats 4000000 in
theorem string_any (t : Nat) (ht : t < 4096) (w : World) :
    Calls Try.prog 31 #[.int .u32 t] w fun e w' => (∃ s : ByteArray, e = .returned (.string s)) ∧ Below w.heap.size w w' := by
  obtain ⟨i0, hi, hz0, hz1, hz2⟩ := info_parts info9
  go_enter Try.func31, Try.ntmps31
  go_wp2_with fail
  go_loopw [0, 3, 4] (fun v0 v3 v4 wr => ∃ (k r : Nat) (xs : List ByteArray), k ≤ 12 ∧ r < 4096 ∧ r % 2 ^ k = 0 ∧ v0 = .int .u32 r ∧ v4 = .int .u32 ((2 ^ k : Nat) : Int) ∧ wr.ownsRow w.heap.size 9 1 v3 xs.length (xs.map Value.string) ∧
      xs.length ≤ k ∧ (∀ s ∈ xs, s.size ≤ 19) ∧ Below w.heap.size w wr)
    (fun _ _ v4 _ => 8192 - (intOf v4).toNat)
  case atStart => exact ⟨0, t, [], by omega, ht, by omega, rfl, rfl, World.ownsRow_nil _ _ _ _, by simp, by simp, Below.refl _ _⟩
  case round =>
    obtain ⟨k, r, xs, hk, hr, hd, rfl, rfl, hown, hlen, hsz, hbel⟩ := hrel
    by_cases h0 : r = 0
    · subst h0
      have hown2 := hown
      obtain ⟨_, hv⟩ := hown2
      rcases hv with ⟨rfl, hn⟩ | ⟨g, cap, cur, rfl, hg, hh, hcap, hmax, hcur, htk⟩
      · clear hown
        go_wp2_with fail
        refine (Try.strings_Join_none _ _ _ _).mono ?_; rintro e w2 ⟨rfl, hw⟩; subst hw
        go_wp2_with fail
        go_ret
        exact ⟨⟨_, rfl⟩, hbel⟩
      · go_wp2_with fail
        refine (Try.strings_Join g 0 cap xs _ _ ?h1 ?h2 ?h3 hcap ?h5).mono ?_
        case h1 =>
          intro j x hx
          have hj : j < xs.length := by
            rcases Nat.lt_or_ge j xs.length with h | h
            · exact h
            · rw [List.getElem?_eq_none h] at hx; cases hx
          have := hown.cellAt j (by omega)
          rw [Nat.zero_add, this]
          simp [hx]
        case h2 => exact (Array.getElem?_eq_some_iff.1 hh).1
        case h3 => omega
        case h5 => exact join_small xs hsz (by omega)
        rintro e w2 ⟨rfl, hb2⟩
        go_wp2_with fail
        go_ret
        exact ⟨⟨_, rfl⟩, hbel.trans (hb2.mono hbel.size)⟩
    have hkl : k < 12 := by
      rcases Nat.lt_or_ge k 12 with h | h
      · exact h
      · obtain rfl : k = 12 := by omega
        rw [Nat.mod_eq_of_lt (by simpa using hr)] at hd
        exact absurd hd h0
    have hr0 : ((r : Int) != 0) = true := by simpa using h0
    rcases round_bit k r hkl hr hd with ⟨hb, hd'⟩ | ⟨hb, r', hx, hr', hd'⟩
    · clear hd h0
      match k, hkl, hlen, hb, hd' with
      | 0, hkl, hlen, hb, hd' =>
        have hb2 : (bits .and .u32 (r : Int) 1 == 0) = true := hb
        have Hd' := Lib.hid hd'
        have Hown := Lib.hid hown
        clear hd' hb hown
        go_wp2_with fail
        · go_roundw
          case rel => exact ⟨1, r, xs, by omega, hr, Hd'.out, rfl, rfl, Hown.out, by omega, hsz, hbel⟩
          case measure => simp [intOf]
      | 1, hkl, hlen, hb, hd' =>
        have hb2 : (bits .and .u32 (r : Int) 2 == 0) = true := hb
        have Hd' := Lib.hid hd'
        have Hown := Lib.hid hown
        clear hd' hb hown
        go_wp2_with fail
        · go_roundw
          case rel => exact ⟨2, r, xs, by omega, hr, Hd'.out, rfl, rfl, Hown.out, by omega, hsz, hbel⟩
          case measure => simp [intOf]
      | 2, hkl, hlen, hb, hd' =>
        have hb2 : (bits .and .u32 (r : Int) 4 == 0) = true := hb
        have Hd' := Lib.hid hd'
        have Hown := Lib.hid hown
        clear hd' hb hown
        go_wp2_with fail
        · go_roundw
          case rel => exact ⟨3, r, xs, by omega, hr, Hd'.out, rfl, rfl, Hown.out, by omega, hsz, hbel⟩
          case measure => simp [intOf]
      | 3, hkl, hlen, hb, hd' =>
        have hb2 : (bits .and .u32 (r : Int) 8 == 0) = true := hb
        have Hd' := Lib.hid hd'
        have Hown := Lib.hid hown
        clear hd' hb hown
        go_wp2_with fail
        · go_roundw
          case rel => exact ⟨4, r, xs, by omega, hr, Hd'.out, rfl, rfl, Hown.out, by omega, hsz, hbel⟩
          case measure => simp [intOf]
      | 4, hkl, hlen, hb, hd' =>
        have hb2 : (bits .and .u32 (r : Int) 16 == 0) = true := hb
        have Hd' := Lib.hid hd'
        have Hown := Lib.hid hown
        clear hd' hb hown
        go_wp2_with fail
        · go_roundw
          case rel => exact ⟨5, r, xs, by omega, hr, Hd'.out, rfl, rfl, Hown.out, by omega, hsz, hbel⟩
          case measure => simp [intOf]
      | 5, hkl, hlen, hb, hd' =>
        have hb2 : (bits .and .u32 (r : Int) 32 == 0) = true := hb
        have Hd' := Lib.hid hd'
        have Hown := Lib.hid hown
        clear hd' hb hown
        go_wp2_with fail
        · go_roundw
          case rel => exact ⟨6, r, xs, by omega, hr, Hd'.out, rfl, rfl, Hown.out, by omega, hsz, hbel⟩
          case measure => simp [intOf]
      | 6, hkl, hlen, hb, hd' =>
        have hb2 : (bits .and .u32 (r : Int) 64 == 0) = true := hb
        have Hd' := Lib.hid hd'
        have Hown := Lib.hid hown
        clear hd' hb hown
        go_wp2_with fail
        · go_roundw
          case rel => exact ⟨7, r, xs, by omega, hr, Hd'.out, rfl, rfl, Hown.out, by omega, hsz, hbel⟩
          case measure => simp [intOf]
      | 7, hkl, hlen, hb, hd' =>
        have hb2 : (bits .and .u32 (r : Int) 128 == 0) = true := hb
        have Hd' := Lib.hid hd'
        have Hown := Lib.hid hown
        clear hd' hb hown
        go_wp2_with fail
        · go_roundw
          case rel => exact ⟨8, r, xs, by omega, hr, Hd'.out, rfl, rfl, Hown.out, by omega, hsz, hbel⟩
          case measure => simp [intOf]
      | 8, hkl, hlen, hb, hd' =>
        have hb2 : (bits .and .u32 (r : Int) 256 == 0) = true := hb
        have Hd' := Lib.hid hd'
        have Hown := Lib.hid hown
        clear hd' hb hown
        go_wp2_with fail
        · go_roundw
          case rel => exact ⟨9, r, xs, by omega, hr, Hd'.out, rfl, rfl, Hown.out, by omega, hsz, hbel⟩
          case measure => simp [intOf]
      | 9, hkl, hlen, hb, hd' =>
        have hb2 : (bits .and .u32 (r : Int) 512 == 0) = true := hb
        have Hd' := Lib.hid hd'
        have Hown := Lib.hid hown
        clear hd' hb hown
        go_wp2_with fail
        · go_roundw
          case rel => exact ⟨10, r, xs, by omega, hr, Hd'.out, rfl, rfl, Hown.out, by omega, hsz, hbel⟩
          case measure => simp [intOf]
      | 10, hkl, hlen, hb, hd' =>
        have hb2 : (bits .and .u32 (r : Int) 1024 == 0) = true := hb
        have Hd' := Lib.hid hd'
        have Hown := Lib.hid hown
        clear hd' hb hown
        go_wp2_with fail
        · go_roundw
          case rel => exact ⟨11, r, xs, by omega, hr, Hd'.out, rfl, rfl, Hown.out, by omega, hsz, hbel⟩
          case measure => simp [intOf]
      | 11, hkl, hlen, hb, hd' =>
        have hb2 : (bits .and .u32 (r : Int) 2048 == 0) = true := hb
        have Hd' := Lib.hid hd'
        have Hown := Lib.hid hown
        clear hd' hb hown
        go_wp2_with fail
        · go_roundw
          case rel => exact ⟨12, r, xs, by omega, hr, Hd'.out, rfl, rfl, Hown.out, by omega, hsz, hbel⟩
          case measure => simp [intOf]
    · clear hd h0
      match k, hkl, hlen, hb, hx, hd' with
      | 0, hkl, hlen, hb, hx, hd' =>
        have hb2 : (bits .and .u32 (r : Int) 1 == 0) = false := hb
        have hx2 : bits .xor .u32 (r : Int) 1 = (r' : Int) := hx
        have Hd' := Lib.hid hd'
        have Hown := Lib.hid hown
        clear hd' hb hx hown
        go_wp2_with fail
        · go_roundw
          case rel => exact ⟨1, r', xs, by omega, hr', Hd'.out, rfl, rfl, Hown.out, by omega, hsz, hbel⟩
          case measure => simp [intOf]
      | 1, hkl, hlen, hb, hx, hd' =>
        have hb2 : (bits .and .u32 (r : Int) 2 == 0) = false := hb
        have hx2 : bits .xor .u32 (r : Int) 2 = (r' : Int) := hx
        have Hd' := Lib.hid hd'
        have Hown := Lib.hid hown
        clear hd' hb hx hown
        go_wp2_with fail
        · go_roundw
          case rel => exact ⟨2, r', xs, by omega, hr', Hd'.out, rfl, rfl, Hown.out, by omega, hsz, hbel⟩
          case measure => simp [intOf]
      | 2, hkl, hlen, hb, hx, hd' =>
        have hb2 : (bits .and .u32 (r : Int) 4 == 0) = false := hb
        have hx2 : bits .xor .u32 (r : Int) 4 = (r' : Int) := hx
        have Hd' := Lib.hid hd'
        have Hown := Lib.hid hown
        clear hd' hb hx hown
        go_wp2_with (first | (at_builtin; refine wpList_append_own _ rfl _ _ 59 rfl w.heap.size 9 i0 (.string ByteArray.empty) 1 16 Try.underlying59 hi hz0 hz1 hz2 rfl (by decide) _ _ _ rfl (Hown.out.alloc _) ⟨wr.heap.size, 0, none⟩ 1 1 [.string ⟨#[111, 118, 101, 114, 102, 108, 111, 119]⟩] rfl rfl (new_one _ _ _) (fun u hu => by simp at hu; subst hu; rfl) (by unfold maxLen; omega) (by omega) (by have := hbel.size; simp; omega) ?_; intro v' w1 hown' hgrow _))
        · have R := round_app (s := ⟨#[111, 118, 101, 114, 102, 108, 111, 119]⟩) hbel hown' hgrow hsz (by decide) Hown.out
          clear hown' hgrow
          go_wp2_with fail
          go_roundw
          case rel => exact ⟨3, r', xs ++ [⟨#[111, 118, 101, 114, 102, 108, 111, 119]⟩], by omega, hr', Hd'.out, rfl, rfl, R.1, by simp; omega, R.2.1, R.2.2⟩
          case measure => simp [intOf]
      | 3, hkl, hlen, hb, hx, hd' =>
        have hb2 : (bits .and .u32 (r : Int) 8 == 0) = false := hb
        have hx2 : bits .xor .u32 (r : Int) 8 = (r' : Int) := hx
        have Hd' := Lib.hid hd'
        have Hown := Lib.hid hown
        clear hd' hb hx hown
        go_wp2_with (first | (at_builtin; refine wpList_append_own _ rfl _ _ 59 rfl w.heap.size 9 i0 (.string ByteArray.empty) 1 16 Try.underlying59 hi hz0 hz1 hz2 rfl (by decide) _ _ _ rfl (Hown.out.alloc _) ⟨wr.heap.size, 0, none⟩ 1 1 [.string ⟨#[117, 110, 100, 101, 114, 102, 108, 111, 119]⟩] rfl rfl (new_one _ _ _) (fun u hu => by simp at hu; subst hu; rfl) (by unfold maxLen; omega) (by omega) (by have := hbel.size; simp; omega) ?_; intro v' w1 hown' hgrow _))
        · have R := round_app (s := ⟨#[117, 110, 100, 101, 114, 102, 108, 111, 119]⟩) hbel hown' hgrow hsz (by decide) Hown.out
          clear hown' hgrow
          go_wp2_with fail
          go_roundw
          case rel => exact ⟨4, r', xs ++ [⟨#[117, 110, 100, 101, 114, 102, 108, 111, 119]⟩], by omega, hr', Hd'.out, rfl, rfl, R.1, by simp; omega, R.2.1, R.2.2⟩
          case measure => simp [intOf]
      | 4, hkl, hlen, hb, hx, hd' =>
        have hb2 : (bits .and .u32 (r : Int) 16 == 0) = false := hb
        have hx2 : bits .xor .u32 (r : Int) 16 = (r' : Int) := hx
        have Hd' := Lib.hid hd'
        have Hown := Lib.hid hown
        clear hd' hb hx hown
        go_wp2_with (first | (at_builtin; refine wpList_append_own _ rfl _ _ 59 rfl w.heap.size 9 i0 (.string ByteArray.empty) 1 16 Try.underlying59 hi hz0 hz1 hz2 rfl (by decide) _ _ _ rfl (Hown.out.alloc _) ⟨wr.heap.size, 0, none⟩ 1 1 [.string ⟨#[105, 110, 101, 120, 97, 99, 116]⟩] rfl rfl (new_one _ _ _) (fun u hu => by simp at hu; subst hu; rfl) (by unfold maxLen; omega) (by omega) (by have := hbel.size; simp; omega) ?_; intro v' w1 hown' hgrow _))
        · have R := round_app (s := ⟨#[105, 110, 101, 120, 97, 99, 116]⟩) hbel hown' hgrow hsz (by decide) Hown.out
          clear hown' hgrow
          go_wp2_with fail
          go_roundw
          case rel => exact ⟨5, r', xs ++ [⟨#[105, 110, 101, 120, 97, 99, 116]⟩], by omega, hr', Hd'.out, rfl, rfl, R.1, by simp; omega, R.2.1, R.2.2⟩
          case measure => simp [intOf]
      | 5, hkl, hlen, hb, hx, hd' =>
        have hb2 : (bits .and .u32 (r : Int) 32 == 0) = false := hb
        have hx2 : bits .xor .u32 (r : Int) 32 = (r' : Int) := hx
        have Hd' := Lib.hid hd'
        have Hown := Lib.hid hown
        clear hd' hb hx hown
        go_wp2_with (first | (at_builtin; refine wpList_append_own _ rfl _ _ 59 rfl w.heap.size 9 i0 (.string ByteArray.empty) 1 16 Try.underlying59 hi hz0 hz1 hz2 rfl (by decide) _ _ _ rfl (Hown.out.alloc _) ⟨wr.heap.size, 0, none⟩ 1 1 [.string ⟨#[115, 117, 98, 110, 111, 114, 109, 97, 108]⟩] rfl rfl (new_one _ _ _) (fun u hu => by simp at hu; subst hu; rfl) (by unfold maxLen; omega) (by omega) (by have := hbel.size; simp; omega) ?_; intro v' w1 hown' hgrow _))
        · have R := round_app (s := ⟨#[115, 117, 98, 110, 111, 114, 109, 97, 108]⟩) hbel hown' hgrow hsz (by decide) Hown.out
          clear hown' hgrow
          go_wp2_with fail
          go_roundw
          case rel => exact ⟨6, r', xs ++ [⟨#[115, 117, 98, 110, 111, 114, 109, 97, 108]⟩], by omega, hr', Hd'.out, rfl, rfl, R.1, by simp; omega, R.2.1, R.2.2⟩
          case measure => simp [intOf]
      | 6, hkl, hlen, hb, hx, hd' =>
        have hb2 : (bits .and .u32 (r : Int) 64 == 0) = false := hb
        have hx2 : bits .xor .u32 (r : Int) 64 = (r' : Int) := hx
        have Hd' := Lib.hid hd'
        have Hown := Lib.hid hown
        clear hd' hb hx hown
        go_wp2_with (first | (at_builtin; refine wpList_append_own _ rfl _ _ 59 rfl w.heap.size 9 i0 (.string ByteArray.empty) 1 16 Try.underlying59 hi hz0 hz1 hz2 rfl (by decide) _ _ _ rfl (Hown.out.alloc _) ⟨wr.heap.size, 0, none⟩ 1 1 [.string ⟨#[114, 111, 117, 110, 100, 101, 100]⟩] rfl rfl (new_one _ _ _) (fun u hu => by simp at hu; subst hu; rfl) (by unfold maxLen; omega) (by omega) (by have := hbel.size; simp; omega) ?_; intro v' w1 hown' hgrow _))
        · have R := round_app (s := ⟨#[114, 111, 117, 110, 100, 101, 100]⟩) hbel hown' hgrow hsz (by decide) Hown.out
          clear hown' hgrow
          go_wp2_with fail
          go_roundw
          case rel => exact ⟨7, r', xs ++ [⟨#[114, 111, 117, 110, 100, 101, 100]⟩], by omega, hr', Hd'.out, rfl, rfl, R.1, by simp; omega, R.2.1, R.2.2⟩
          case measure => simp [intOf]
      | 7, hkl, hlen, hb, hx, hd' =>
        have hb2 : (bits .and .u32 (r : Int) 128 == 0) = false := hb
        have hx2 : bits .xor .u32 (r : Int) 128 = (r' : Int) := hx
        have Hd' := Lib.hid hd'
        have Hown := Lib.hid hown
        clear hd' hb hx hown
        go_wp2_with (first | (at_builtin; refine wpList_append_own _ rfl _ _ 59 rfl w.heap.size 9 i0 (.string ByteArray.empty) 1 16 Try.underlying59 hi hz0 hz1 hz2 rfl (by decide) _ _ _ rfl (Hown.out.alloc _) ⟨wr.heap.size, 0, none⟩ 1 1 [.string ⟨#[100, 105, 118, 105, 115, 105, 111, 110, 32, 117, 110, 100, 101, 102, 105, 110, 101, 100]⟩] rfl rfl (new_one _ _ _) (fun u hu => by simp at hu; subst hu; rfl) (by unfold maxLen; omega) (by omega) (by have := hbel.size; simp; omega) ?_; intro v' w1 hown' hgrow _))
        · have R := round_app (s := ⟨#[100, 105, 118, 105, 115, 105, 111, 110, 32, 117, 110, 100, 101, 102, 105, 110, 101, 100]⟩) hbel hown' hgrow hsz (by decide) Hown.out
          clear hown' hgrow
          go_wp2_with fail
          go_roundw
          case rel => exact ⟨8, r', xs ++ [⟨#[100, 105, 118, 105, 115, 105, 111, 110, 32, 117, 110, 100, 101, 102, 105, 110, 101, 100]⟩], by omega, hr', Hd'.out, rfl, rfl, R.1, by simp; omega, R.2.1, R.2.2⟩
          case measure => simp [intOf]
      | 8, hkl, hlen, hb, hx, hd' =>
        have hb2 : (bits .and .u32 (r : Int) 256 == 0) = false := hb
        have hx2 : bits .xor .u32 (r : Int) 256 = (r' : Int) := hx
        have Hd' := Lib.hid hd'
        have Hown := Lib.hid hown
        clear hd' hb hx hown
        go_wp2_with (first | (at_builtin; refine wpList_append_own _ rfl _ _ 59 rfl w.heap.size 9 i0 (.string ByteArray.empty) 1 16 Try.underlying59 hi hz0 hz1 hz2 rfl (by decide) _ _ _ rfl (Hown.out.alloc _) ⟨wr.heap.size, 0, none⟩ 1 1 [.string ⟨#[100, 105, 118, 105, 115, 105, 111, 110, 32, 98, 121, 32, 122, 101, 114, 111]⟩] rfl rfl (new_one _ _ _) (fun u hu => by simp at hu; subst hu; rfl) (by unfold maxLen; omega) (by omega) (by have := hbel.size; simp; omega) ?_; intro v' w1 hown' hgrow _))
        · have R := round_app (s := ⟨#[100, 105, 118, 105, 115, 105, 111, 110, 32, 98, 121, 32, 122, 101, 114, 111]⟩) hbel hown' hgrow hsz (by decide) Hown.out
          clear hown' hgrow
          go_wp2_with fail
          go_roundw
          case rel => exact ⟨9, r', xs ++ [⟨#[100, 105, 118, 105, 115, 105, 111, 110, 32, 98, 121, 32, 122, 101, 114, 111]⟩], by omega, hr', Hd'.out, rfl, rfl, R.1, by simp; omega, R.2.1, R.2.2⟩
          case measure => simp [intOf]
      | 9, hkl, hlen, hb, hx, hd' =>
        have hb2 : (bits .and .u32 (r : Int) 512 == 0) = false := hb
        have hx2 : bits .xor .u32 (r : Int) 512 = (r' : Int) := hx
        have Hd' := Lib.hid hd'
        have Hown := Lib.hid hown
        clear hd' hb hx hown
        go_wp2_with (first | (at_builtin; refine wpList_append_own _ rfl _ _ 59 rfl w.heap.size 9 i0 (.string ByteArray.empty) 1 16 Try.underlying59 hi hz0 hz1 hz2 rfl (by decide) _ _ _ rfl (Hown.out.alloc _) ⟨wr.heap.size, 0, none⟩ 1 1 [.string ⟨#[100, 105, 118, 105, 115, 105, 111, 110, 32, 105, 109, 112, 111, 115, 115, 105, 98, 108, 101]⟩] rfl rfl (new_one _ _ _) (fun u hu => by simp at hu; subst hu; rfl) (by unfold maxLen; omega) (by omega) (by have := hbel.size; simp; omega) ?_; intro v' w1 hown' hgrow _))
        · have R := round_app (s := ⟨#[100, 105, 118, 105, 115, 105, 111, 110, 32, 105, 109, 112, 111, 115, 115, 105, 98, 108, 101]⟩) hbel hown' hgrow hsz (by decide) Hown.out
          clear hown' hgrow
          go_wp2_with fail
          go_roundw
          case rel => exact ⟨10, r', xs ++ [⟨#[100, 105, 118, 105, 115, 105, 111, 110, 32, 105, 109, 112, 111, 115, 115, 105, 98, 108, 101]⟩], by omega, hr', Hd'.out, rfl, rfl, R.1, by simp; omega, R.2.1, R.2.2⟩
          case measure => simp [intOf]
      | 10, hkl, hlen, hb, hx, hd' =>
        have hb2 : (bits .and .u32 (r : Int) 1024 == 0) = false := hb
        have hx2 : bits .xor .u32 (r : Int) 1024 = (r' : Int) := hx
        have Hd' := Lib.hid hd'
        have Hown := Lib.hid hown
        clear hd' hb hx hown
        go_wp2_with (first | (at_builtin; refine wpList_append_own _ rfl _ _ 59 rfl w.heap.size 9 i0 (.string ByteArray.empty) 1 16 Try.underlying59 hi hz0 hz1 hz2 rfl (by decide) _ _ _ rfl (Hown.out.alloc _) ⟨wr.heap.size, 0, none⟩ 1 1 [.string ⟨#[105, 110, 118, 97, 108, 105, 100, 32, 111, 112, 101, 114, 97, 116, 105, 111, 110]⟩] rfl rfl (new_one _ _ _) (fun u hu => by simp at hu; subst hu; rfl) (by unfold maxLen; omega) (by omega) (by have := hbel.size; simp; omega) ?_; intro v' w1 hown' hgrow _))
        · have R := round_app (s := ⟨#[105, 110, 118, 97, 108, 105, 100, 32, 111, 112, 101, 114, 97, 116, 105, 111, 110]⟩) hbel hown' hgrow hsz (by decide) Hown.out
          clear hown' hgrow
          go_wp2_with fail
          go_roundw
          case rel => exact ⟨11, r', xs ++ [⟨#[105, 110, 118, 97, 108, 105, 100, 32, 111, 112, 101, 114, 97, 116, 105, 111, 110]⟩], by omega, hr', Hd'.out, rfl, rfl, R.1, by simp; omega, R.2.1, R.2.2⟩
          case measure => simp [intOf]
      | 11, hkl, hlen, hb, hx, hd' =>
        have hb2 : (bits .and .u32 (r : Int) 2048 == 0) = false := hb
        have hx2 : bits .xor .u32 (r : Int) 2048 = (r' : Int) := hx
        have Hd' := Lib.hid hd'
        have Hown := Lib.hid hown
        clear hd' hb hx hown
        go_wp2_with (first | (at_builtin; refine wpList_append_own _ rfl _ _ 59 rfl w.heap.size 9 i0 (.string ByteArray.empty) 1 16 Try.underlying59 hi hz0 hz1 hz2 rfl (by decide) _ _ _ rfl (Hown.out.alloc _) ⟨wr.heap.size, 0, none⟩ 1 1 [.string ⟨#[99, 108, 97, 109, 112, 101, 100]⟩] rfl rfl (new_one _ _ _) (fun u hu => by simp at hu; subst hu; rfl) (by unfold maxLen; omega) (by omega) (by have := hbel.size; simp; omega) ?_; intro v' w1 hown' hgrow _))
        · have R := round_app (s := ⟨#[99, 108, 97, 109, 112, 101, 100]⟩) hbel hown' hgrow hsz (by decide) Hown.out
          clear hown' hgrow
          go_wp2_with fail
          go_roundw
          case rel => exact ⟨12, r', xs ++ [⟨#[99, 108, 97, 109, 112, 101, 100]⟩], by omega, hr', Hd'.out, rfl, rfl, R.1, by simp; omega, R.2.1, R.2.2⟩
          case measure => simp [intOf]
end Go.Proofs.Ytekhflejmbikmaa.GE
