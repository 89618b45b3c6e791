/- nat.bitLen, Int.BitLen, BigInt.BitLen. -/
import Derived.Test.YtdfcomilhjoooaaGreatDoorNum
import Derived.Test.YtdfcomilhjoooaaGreatDoorBase6
import Derived.Test.YtdfcomilhjoooaaGreatDoorShelf
namespace Go.Proofs.YtdfcomilhjoooaaGreatDoor.Byt
open Go.RowKit Go.Proofs.YtdfcomilhjoooaaGreatDoorW.PrintWords Go.Proofs.YtdfcomilhjoooaaGreatDoor.Base Go.Proofs.YtdfcomilhjoooaaGreatDoor.Num
set_option linter.unusedVariables false

theorem wrapU {n : Int} (h0 : 0 ≤ n) (h1 : n < 18446744073709551616) : IntKind.u64.wrap n = n := by
  simp [IntKind.wrap, IntKind.bits, IntKind.signed]; omega
theorem bits_or {a b : Nat} (ha : a < 2 ^ 64) (hb : b < 2 ^ 64) : Go.bits .or .u64 (a : Int) (b : Int) = ((a ||| b : Nat) : Int) := by
  have h : a ||| b < 2 ^ 64 := Nat.or_lt_two_pow ha hb
  have e : (BitVec.ofInt IntKind.u64.bits (a : Int) ||| BitVec.ofInt IntKind.u64.bits (b : Int)).toNat = a ||| b := by
    rw [BitVec.toNat_or, BitVec.toNat_ofInt, BitVec.toNat_ofInt]
    have e1 : ((a : Int) % ((2 ^ IntKind.u64.bits : Nat) : Int)).toNat = a := by
      rw [Int.emod_eq_of_lt (by omega) (by exact Int.ofNat_lt.2 ha)]; omega
    have e2 : ((b : Int) % ((2 ^ IntKind.u64.bits : Nat) : Int)).toNat = b := by
      rw [Int.emod_eq_of_lt (by omega) (by exact Int.ofNat_lt.2 hb)]; omega
    rw [e1, e2]
  show IntKind.u64.wrap (((BitVec.ofInt IntKind.u64.bits (a : Int) ||| BitVec.ofInt IntKind.u64.bits (b : Int)).toNat : Nat) : Int) = _
  rw [e]
  exact wrapU (by omega) (by omega)
theorem nrm_last {d : List Int} (h : Nrm d) (h0 : 0 < d.length) : d.getD (d.length - 1) 0 ≠ 0 := by
  rcases List.eq_nil_or_concat d with rfl | ⟨p, x, rfl⟩
  · simp at h0
  · intro e
    apply h
    simp at e ⊢
    exact e
theorem val_lt {B : Int} (hB : 0 < B) : ∀ {l : List Int}, Dig B l → val B l < B ^ l.length
  | [], _ => by simp [val]
  | x :: l, h => by
    have h1 := h.head
    have h2 := val_lt hB h.tail
    have := Int.mul_le_mul_of_nonneg_left (show val B l + 1 ≤ B ^ l.length by omega) (Int.le_of_lt hB)
    rw [Int.mul_add, Int.mul_one] at this
    simp only [val, List.length_cons, Int.pow_succ]
    rw [Int.mul_comm (B ^ l.length)]
    omega

def or1 (y : Int) (k : Int) : Int := Go.bits .or .u64 y (y / k)
/-- the number with all bits below its highest one set -/
def orc (x : Int) : Int :=
  Go.bits .or .u64 (or1 (or1 (or1 (or1 (or1 x 2) 4) 16) 256) 65536) (or1 (or1 (or1 (or1 (or1 x 2) 4) 16) 256) 65536 / 65536 / 65536)
theorem or_b {y z : Int} (h0 : 0 ≤ y) (h1 : y < 2 ^ 64) (h2 : 0 ≤ z) (h3 : z < 2 ^ 64) : y ≤ Go.bits .or .u64 y z ∧ Go.bits .or .u64 y z < 2 ^ 64 := by
  obtain ⟨a, rfl⟩ := Int.eq_ofNat_of_zero_le h0
  obtain ⟨b, rfl⟩ := Int.eq_ofNat_of_zero_le h2
  have ha : a < 2 ^ 64 := by exact_mod_cast h1
  have hb : b < 2 ^ 64 := by exact_mod_cast h3
  rw [bits_or ha hb]
  have h4 : a ≤ a ||| b := Nat.left_le_or
  have h5 : a ||| b < 2 ^ 64 := Nat.or_lt_two_pow ha hb
  exact ⟨by exact_mod_cast h4, by exact_mod_cast h5⟩
theorem or1_b {y : Int} {k : Int} (hk : 1 < k) (h0 : 0 ≤ y) (h1 : y < 2 ^ 64) : 0 ≤ or1 y k ∧ y ≤ or1 y k ∧ or1 y k < 2 ^ 64 := by
  have h2 : 0 ≤ y / k := Int.ediv_nonneg h0 (by omega)
  have h3 : y / k ≤ y := Int.ediv_le_self _ h0
  have := or_b h0 h1 h2 (by omega)
  exact ⟨Int.le_trans h0 this.1, this.1, this.2⟩
theorem orc_b {x : Int} (h0 : 0 ≤ x) (h1 : x < 2 ^ 64) : x ≤ orc x ∧ orc x < 2 ^ 64 := by
  obtain ⟨a0, a1, a2⟩ := or1_b (k := 2) (by decide) h0 h1
  obtain ⟨b0, b1, b2⟩ := or1_b (k := 4) (by decide) a0 a2
  obtain ⟨c0, c1, c2⟩ := or1_b (k := 16) (by decide) b0 b2
  obtain ⟨d0, d1, d2⟩ := or1_b (k := 256) (by decide) c0 c2
  obtain ⟨e0, e1, e2⟩ := or1_b (k := 65536) (by decide) d0 d2
  have f0 := Int.ediv_nonneg (Int.ediv_nonneg e0 (show (0 : Int) ≤ 65536 by decide)) (show (0 : Int) ≤ 65536 by decide)
  have f1 : or1 (or1 (or1 (or1 (or1 x 2) 4) 16) 256) 65536 / 65536 / 65536 < 2 ^ 64 := Int.lt_of_le_of_lt (Int.le_trans (Int.ediv_le_self _ (Int.ediv_nonneg e0 (by decide))) (Int.ediv_le_self _ e0)) e2
  have g := or_b e0 e2 f0 f1
  exact ⟨Int.le_trans a1 (Int.le_trans b1 (Int.le_trans c1 (Int.le_trans d1 (Int.le_trans e1 g.1)))), g.2⟩

theorem bla_le : ∀ f x, Lib.bitLenAux f x ≤ f
  | 0, _ => Nat.le_refl _
  | f + 1, x => by
    unfold Lib.bitLenAux
    split
    · omega
    · have := bla_le f (x / 2); omega
theorem bla_lt : ∀ f x, x < 2 ^ f → x < 2 ^ Lib.bitLenAux f x
  | 0, x, h => h
  | f + 1, x, h => by
    unfold Lib.bitLenAux
    split
    · omega
    · rw [Nat.pow_succ] at h
      have := bla_lt f (x / 2) (by omega)
      rw [Nat.add_comm, Nat.pow_succ]; omega
theorem bl_le (x : Nat) : Lib.bitLen x ≤ 64 := bla_le 64 x
theorem bl_lt (x : Nat) (h : x < 2 ^ 64) : x < 2 ^ Lib.bitLen x := bla_lt 64 x h
theorem bl_pos (x : Nat) (h : x < 2 ^ 64) (h0 : 0 < x) : 0 < Lib.bitLen x := by
  have := bl_lt x h
  rcases Nat.eq_zero_or_pos (Lib.bitLen x) with e | e
  · rw [e] at this; omega
  · exact e

/-- what bitLen gives -/
def bitL (l : List Int) : Nat := if l.length = 0 then 0 else 64 * (l.length - 1) + Lib.bitLen (orc (l.getD (l.length - 1) 0)).toNat

set_option maxHeartbeats 1000000 in
theorem bitLen_any (A : Option Addr) (c : Nat) (l : List Int) (hl : l.length ≤ 1000) (hd : Dig (2 ^ 64) l) (w : World) (hr : ReadsInt w .u64 A l.length l) :
    Calls Tryz.prog 48 #[.slice A l.length c] w fun e w' => e = .returned (.int .i64 (bitL l : Nat)) ∧ w = w' := by
  rcases Nat.eq_zero_or_pos l.length with h0 | h0
  · obtain rfl : l = [] := List.eq_nil_of_length_eq_zero h0
    clear hr hl h0 hd
    go_enter Tryz.func48, Tryz.ntmps48
    go_wp2_with fail
    go_ret
    exact ⟨rfl, rfl⟩
  · obtain ⟨n, hn⟩ : ∃ n, l.length = n + 1 := ⟨l.length - 1, by omega⟩
    obtain ⟨ad, rfl, hcl⟩ := hr.2.2 h0
    have hcell := hcl n (by omega)
    obtain ⟨x, hx⟩ : ∃ x, x = l.getD n 0 := ⟨_, rfl⟩
    rw [← hx] at hcell
    have hxr : 0 ≤ x ∧ x < 2 ^ 64 := by rw [hx]; exact hd.getD (by decide) n
    have e : bitL l = 64 * n + Lib.bitLen (orc x).toNat := by
      unfold bitL; rw [if_neg (by omega), hn, Nat.add_sub_cancel, ← hx]
    rw [e, hn]
    have HB := Lib.hid (orc_b hxr.1 hxr.2)
    have hn1000 : n ≤ 1000 := by omega
    have HL := Lib.hid (Tryz.bits_Len (orc x) w (by have := HB.out; omega) (by have := HB.out; omega))
    have hbl : Lib.bitLen (orc x).toNat ≤ 64 := bl_le _
    obtain ⟨L, hL⟩ : ∃ L, L = Lib.bitLen (orc x).toNat := ⟨_, rfl⟩
    rw [← hL] at HL hbl ⊢
    clear hL e hx hn hcl hr hl hd h0
    go_enter Tryz.func48, Tryz.ntmps48
    go_wp2_with fail
    refine HL.out.mono ?_
    rintro e w' ⟨rfl, rfl⟩
    clear HL HB
    go_wp2_with fail
    go_ret
    refine ⟨?_, rfl⟩
    have e1 : ((64 * n + L : Nat) : Int) = (n : Int) * 64 + (L : Int) := by omega
    rw [e1]; rfl
theorem bitL_zero : bitL [] = 0 := rfl
theorem bitL_pos {l : List Int} (hd : Dig (2 ^ 64) l) (hn : Nrm l) (h : 0 < l.length) : 0 < bitL l := by
  unfold bitL
  rw [if_neg (by omega)]
  have h1 := hd.getD (by decide) (l.length - 1)
  have h2 := nrm_last hn h
  have h3 := orc_b h1.1 h1.2
  have := bl_pos (orc (l.getD (l.length - 1) 0)).toNat (by omega) (by omega)
  omega
theorem bitL_le (l : List Int) : bitL l ≤ 64 * l.length := by
  unfold bitL
  split
  · omega
  · have := bl_le (orc (l.getD (l.length - 1) 0)).toNat
    omega

set_option maxHeartbeats 1000000 in
theorem intBitLen (b o t : Nat) (cs : Array Value) (xn : Bool) (A : Option Addr) (c : Nat) (l : List Int) (hl : l.length ≤ 1000) (hd : Dig (2 ^ 64) l) (w : World) (hr : ReadsInt w .u64 A l.length l)
    (hb : w.heap[b]? = some (.cells cs t (0, 0))) (hx : isInt cs o xn (.slice A l.length c)) :
    Calls Tryz.prog 24 #[.pointer (some ⟨b, o, none⟩)] w fun e w' => e = .returned (.int .i64 (bitL l : Nat)) ∧ w = w' := by
  have X1 : w.cell? ⟨b, o + 1, none⟩ = some (.slice A l.length c) := (blk_cell hb (o + 1)).trans hx.2
  have HI : Hid (Calls Tryz.prog 37 #[.pointer (some ⟨b, o, none⟩)] w fun e w' => e = .returned (.int .i64 (bitL l : Nat)) ∧ w = w') := Lib.hid (by
    have H := Lib.hid (bitLen_any A c l hl hd w hr)
    clear hr hb hx hd
    go_enter Tryz.func37, Tryz.ntmps37
    go_wp2_with fail
    refine H.out.mono ?_
    rintro e w' ⟨rfl, rfl⟩
    go_wp2_with fail
    go_ret
    exact ⟨rfl, rfl⟩)
  clear hr hb hx hd X1
  go_enter Tryz.func24, Tryz.ntmps24
  go_wp2_with fail
  refine HI.out.mono ?_
  rintro e w' ⟨rfl, rfl⟩
  go_wp2_with fail
  go_ret
  exact ⟨rfl, rfl⟩
end Go.Proofs.YtdfcomilhjoooaaGreatDoor.Byt
