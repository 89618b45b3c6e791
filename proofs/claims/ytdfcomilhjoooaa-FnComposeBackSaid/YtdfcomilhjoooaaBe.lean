/- bigall.beUint32, beUint64, bigEndianWord on eight bytes: their number. -/
import Derived.Test.YtdfcomilhjoooaaSpec3
import Derived.Test.YtdfcomilhjoooaaBase6
import Derived.BigQuiet
namespace Go.Proofs.Ytdfcomilhjoooaa.Be
open Go.RowKit Go.Proofs.YtdfcomilhjoooaaW.PrintWords Go.Proofs.YtdfcomilhjoooaaW.PrintLast Go.Proofs.YtdfcomilhjoooaaW.PrintMore Go.Proofs.Ytdfcomilhjoooaa.PFnCompose Go.Proofs.Ytdfcomilhjoooaa.Base Go.Proofs.Ytdfcomilhjoooaa.Num
open Go.Proofs.Ytdfcomilhjoooaa.Spec2 (wrapU)
open Go.Proofs.Ytdfcomilhjoooaa.Spec3 (bits_or or_shl)

/-- the number of bytes, the highest first -/
def bew (l : List Int) : Int := val 256 l.reverse
theorem bew_snoc (l : List Int) (x : Int) : bew (l ++ [x]) = 256 * bew l + x := by
  simp only [bew, List.reverse_append, List.reverse_cons, List.reverse_nil, List.nil_append, List.singleton_append, val]; omega
theorem bew_app (a b : List Int) : bew (a ++ b) = bew a * 256 ^ b.length + bew b := by
  simp only [bew, List.reverse_append, val_app, List.length_reverse]
  rw [Int.mul_comm]; omega
theorem bew_nonneg {l : List Int} (h : Dig 256 l) : 0 ≤ bew l := val_nonneg (by decide) (fun x hx => h x (List.mem_reverse.1 hx))
theorem val_lt {B : Int} (hB : 0 < B) : ∀ {l : List Int}, Dig B l → val B l < B ^ l.length
  | [], _ => by simp [val]
  | x :: l, h => by
    have h1 := h.head
    have h2 := val_lt hB h.tail
    have := Int.mul_le_mul_of_nonneg_left (show val B l + 1 ≤ B ^ l.length by omega) (Int.le_of_lt hB)
    rw [Int.mul_add, Int.mul_one] at this
    simp only [val, List.length_cons, Int.pow_succ]
    rw [Int.mul_comm (B ^ l.length)]
    omega
theorem bew_lt {l : List Int} (h : Dig 256 l) : bew l < 256 ^ l.length := by
  have := val_lt (by decide) (l := l.reverse) (fun x hx => h x (List.mem_reverse.1 hx))
  rwa [List.length_reverse] at this

theorem wrap32 {n : Int} (h0 : 0 ≤ n) (h1 : n < 4294967296) : IntKind.u32.wrap n = n := by
  simp [IntKind.wrap, IntKind.bits, IntKind.signed]; omega
theorem bits_or32 {a b : Nat} (ha : a < 2 ^ 32) (hb : b < 2 ^ 32) : Go.bits .or .u32 (a : Int) (b : Int) = ((a ||| b : Nat) : Int) := by
  have h : a ||| b < 2 ^ 32 := Nat.or_lt_two_pow ha hb
  have e : (BitVec.ofInt IntKind.u32.bits (a : Int) ||| BitVec.ofInt IntKind.u32.bits (b : Int)).toNat = a ||| b := by
    rw [BitVec.toNat_or, BitVec.toNat_ofInt, BitVec.toNat_ofInt]
    have e1 : ((a : Int) % ((2 ^ IntKind.u32.bits : Nat) : Int)).toNat = a := by
      rw [Int.emod_eq_of_lt (by omega) (by exact Int.ofNat_lt.2 ha)]; omega
    have e2 : ((b : Int) % ((2 ^ IntKind.u32.bits : Nat) : Int)).toNat = b := by
      rw [Int.emod_eq_of_lt (by omega) (by exact Int.ofNat_lt.2 hb)]; omega
    rw [e1, e2]
  show IntKind.u32.wrap (((BitVec.ofInt IntKind.u32.bits (a : Int) ||| BitVec.ofInt IntKind.u32.bits (b : Int)).toNat : Nat) : Int) = _
  rw [e]
  exact wrap32 (by omega) (by omega)
theorem or32 {w x : Int} (s : Nat) (hw0 : 0 ≤ w) (hw : w < 2 ^ s) (hx0 : 0 ≤ x) (hx : x * 2 ^ s < 2 ^ 32) (hw2 : w < 2 ^ 32) : Go.bits .or .u32 w (x * 2 ^ s) = w + x * 2 ^ s := by
  obtain ⟨a, rfl⟩ := Int.eq_ofNat_of_zero_le hw0
  obtain ⟨b, rfl⟩ := Int.eq_ofNat_of_zero_le hx0
  have ha : a < 2 ^ s := by exact_mod_cast hw
  have ha2 : a < 2 ^ 32 := by exact_mod_cast hw2
  have hb : b * 2 ^ s < 2 ^ 32 := by exact_mod_cast hx
  have e1 : (b : Int) * 2 ^ s = ((b * 2 ^ s : Nat) : Int) := by push_cast; rfl
  rw [e1, bits_or32 ha2 hb]
  have := Nat.two_pow_add_eq_or_of_lt ha b
  have e3 : a ||| b * 2 ^ s = a + b * 2 ^ s := by rw [Nat.or_comm, Nat.mul_comm b, ← this, Nat.add_comm]
  rw [e3]; push_cast; rfl
theorem orHi {w x : Int} (hw0 : 0 ≤ w) (hw : w < 4294967296) (hx0 : 0 ≤ x) (hx : x < 4294967296) : Go.bits .or .u64 (x * 4294967296) w = x * 4294967296 + w := by
  obtain ⟨a, rfl⟩ := Int.eq_ofNat_of_zero_le hw0
  obtain ⟨b, rfl⟩ := Int.eq_ofNat_of_zero_le hx0
  have ha : a < 2 ^ 32 := by omega
  have e1 : (b : Int) * 4294967296 = ((b * 4294967296 : Nat) : Int) := by omega
  have e2 : b * 4294967296 ||| a = b * 4294967296 + a := by
    have := Nat.two_pow_add_eq_or_of_lt ha b
    rw [Nat.mul_comm (2 ^ 32) b] at this
    exact this.symm
  rw [e1, bits_or (by omega) (by omega), e2]
  omega

theorem be32 (a b c d : Int) (r : List Int) (ha : 0 ≤ a ∧ a < 256) (hb : 0 ≤ b ∧ b < 256) (hc : 0 ≤ c ∧ c < 256) (hd : 0 ≤ d ∧ d < 256) :
    bigall_beUint32.f (a :: b :: c :: d :: r) = some (a * 16777216 + b * 65536 + c * 256 + d) := by
  have c3 : 3 < ((a :: b :: c :: d :: r).length : Int) := by simp; omega
  have c2 : 2 < ((a :: b :: c :: d :: r).length : Int) := by simp; omega
  have c1 : 1 < ((a :: b :: c :: d :: r).length : Int) := by simp; omega
  have c0 : 0 < ((a :: b :: c :: d :: r).length : Int) := by simp; omega
  have r3 : rd (a :: b :: c :: d :: r) 3 = d := rfl
  have r2 : rd (a :: b :: c :: d :: r) 2 = c := rfl
  have r1 : rd (a :: b :: c :: d :: r) 1 = b := rfl
  have r0 : rd (a :: b :: c :: d :: r) 0 = a := rfl
  have m3 : d % 4294967296 = d := by omega
  have m2 : c % 4294967296 * 256 % 4294967296 = c * 2 ^ 8 := by omega
  have m1 : b % 4294967296 * 65536 % 4294967296 = b * 2 ^ 16 := by omega
  have m0 : a % 4294967296 * 16777216 % 4294967296 = a * 2 ^ 24 := by omega
  have o1 := or32 (w := d) (x := c) 8 (by omega) (by omega) (by omega) (by omega) (by omega)
  have o2 := or32 (w := d + c * 2 ^ 8) (x := b) 16 (by omega) (by omega) (by omega) (by omega) (by omega)
  have o3 := or32 (w := d + c * 2 ^ 8 + b * 2 ^ 16) (x := a) 24 (by omega) (by omega) (by omega) (by omega) (by omega)
  simp only [bigall_beUint32.f, if_pos c3, if_pos c2, if_pos c1, if_pos c0, r3, r2, r1, r0, m3, m2, m1, m0, o1, o2, o3]
  congr 1; omega

set_option maxHeartbeats 4000000 in
set_option maxRecDepth 100000 in
theorem be64 (ad : Addr) (cp : Nat) (a b c d e f g h : Int) (hc : 8 ≤ cp) (ha : Dig 256 [a, b, c, d, e, f, g, h]) (w : World) (hr : ReadsInt w .u8 (some ad) 8 [a, b, c, d, e, f, g, h]) :
    Calls Try.prog 49 #[.slice (some ad) 8 cp] w fun x w' => x = .returned (.int .u64 (bew [a, b, c, d, e, f, g, h])) ∧ Drawn0 w w' := by
  have ra := ha a (by simp)
  have rb := ha b (by simp)
  have rc := ha c (by simp)
  have rdd := ha d (by simp)
  have re := ha e (by simp)
  have rf := ha f (by simp)
  have rg := ha g (by simp)
  have rh := ha h (by simp)
  have hC : Kd.C (Kd.int .u8) w (some ad) [a, b, c, d, e, f, g, h].length [a, b, c, d, e, f, g, h] := Kd.C_of_reads (readsInt_of.1 hr)
  obtain ⟨i06, hi06, _, hsz6, _⟩ := info_parts info5
  obtain ⟨A6, hcut, hA6, hC6⟩ := print_drop_of (P := Try.prog) (Value.int .u8) (0 : Int) 22 5 .i64 Try.underlying22 hi06 hsz6 (some ad) cp [a, b, c, d, e, f, g, h] 4 (by decide) (by simp) hc
  have hlow : ReadsInt w .u8 A6 4 [e, f, g, h] := readsInt_of.2 (hA6 _ (readsInt_of.1 hr))
  have hcut' : ∀ W : World, (Instr.slice 22 (.slice (some ad) 8 cp) (some (.int .i64 4)) none none).run Try.prog W = .ok (.slice A6 4 (cp - 4)) W := hcut
  have hC2 : Kd.C (Kd.int .u8) w A6 [e, f, g, h].length [e, f, g, h] := Kd.C_of_reads (readsInt_of.1 hlow)
  have S1 : ∀ W, Kd.C (Kd.int .u8) W (some ad) 8 [a, b, c, d, e, f, g, h] → Calls Try.prog 50 #[.slice (some ad) 8 cp] W fun x w' => x = .returned (.int .u32 (a * 16777216 + b * 65536 + c * 256 + d)) ∧ Drawn0 W w' :=
    fun W hW => bigall_beUint32.calls (some ad) cp [a, b, c, d, e, f, g, h] _ W hW hc (be32 a b c d [e, f, g, h] ra rb rc rdd)
  have S2 : ∀ W, Kd.C (Kd.int .u8) W A6 4 [e, f, g, h] → Calls Try.prog 50 #[.slice A6 4 (cp - 4)] W fun x w' => x = .returned (.int .u32 (e * 16777216 + f * 65536 + g * 256 + h)) ∧ Drawn0 W w' :=
    fun W h' => bigall_beUint32.calls A6 (cp - 4) [e, f, g, h] _ W h' hC6 (be32 e f g h [] re rf rg rh)
  have h7 : w.cell? (ad.add 7) = some (.int .u8 h) := by
    obtain ⟨ad', e', hcl⟩ := hr.2.2 (by decide)
    cases e'
    exact hcl 7 (by decide)
  simp only [Go.Addr.add, Nat.reduceEqDiff, ↓reduceIte] at h7
  obtain ⟨v1, hv1⟩ : ∃ v, v = a * 16777216 + b * 65536 + c * 256 + d := ⟨_, rfl⟩
  obtain ⟨v2, hv2⟩ : ∃ v, v = e * 16777216 + f * 65536 + g * 256 + h := ⟨_, rfl⟩
  rw [← hv1] at S1
  rw [← hv2] at S2
  have hval : Go.bits .or .u64 (IntKind.u64.wrap (IntKind.u64.wrap v1 * 4294967296)) (IntKind.u64.wrap v2) = bew [a, b, c, d, e, f, g, h] := by
    rw [wrapU (n := v1) (by omega) (by omega), wrapU (n := v2) (by omega) (by omega), wrapU (by omega) (by omega), orHi (by omega) (by omega) (by omega) (by omega)]
    simp only [bew, List.reverse_cons, List.reverse_nil, List.nil_append, List.cons_append, val]
    omega
  have HV := Lib.hid hval
  have HC1 : Hid (Kd.C (Kd.int .u8) w (some ad) 8 [a, b, c, d, e, f, g, h]) := Lib.hid hC
  have HC2 : Hid (Kd.C (Kd.int .u8) w A6 4 [e, f, g, h]) := Lib.hid hC2
  have HS1 := Lib.hid S1
  have HS2 := Lib.hid S2
  clear hval hC hC2 S1 S2 hv1 hv2 ra rb rc rdd re rf rg rh ha hr hlow hA6 hC6 hi06 hsz6 hcut
  generalize bew [a, b, c, d, e, f, g, h] = R at *
  obtain ⟨L1, hL1⟩ : ∃ L, L = [a, b, c, d, e, f, g, h] := ⟨_, rfl⟩
  obtain ⟨L2, hL2⟩ : ∃ L, L = [e, f, g, h] := ⟨_, rfl⟩
  rw [← hL1] at HC1 HS1
  rw [← hL2] at HC2 HS2
  clear hL1 hL2
  obtain ⟨c4, hc4⟩ : ∃ n, n = cp - 4 := ⟨_, rfl⟩
  rw [← hc4] at HS2 hcut'
  clear hc4
  go_enter Try.func49, Try.ntmps49
  go_wp2_with fail
  go_quiet (first | (go_at_call 50; (with_reducible refine (HS1.out _ ?side1).mono ?_); (case side1 => repeat (first | with_reducible exact HC1.out | (with_reducible refine Kd.C_drewN ?_ _) | (with_reducible refine Kd.C_drew ?_))); rintro e w' ⟨rfl, ⟨nd, rfl⟩⟩; (try first | exact ⟨rfl, _, World.drewN_drewN _ _ _⟩ | exact ⟨rfl, _, Eq.trans (World.drewN_drewN _ _ _) (congrArg (World.drewN _) (Nat.add_assoc _ _ _))⟩)) | (go_at_call 50; (with_reducible refine (HS2.out _ ?side1).mono ?_); (case side1 => repeat (first | with_reducible exact HC2.out | (with_reducible refine Kd.C_drewN ?_ _) | (with_reducible refine Kd.C_drew ?_))); rintro e w' ⟨rfl, ⟨nd, rfl⟩⟩; (try first | exact ⟨rfl, _, World.drewN_drewN _ _ _⟩ | exact ⟨rfl, _, Eq.trans (World.drewN_drewN _ _ _) (congrArg (World.drewN _) (Nat.add_assoc _ _ _))⟩)))
  rw [HV.out]
  go_wp2_with fail
  go_ret
  exact ⟨rfl, ⟨_, rfl⟩⟩

theorem bew_any (ad : Addr) (cp : Nat) (l : List Int) (hl : l.length = 8) (hc : 8 ≤ cp) (ha : Dig 256 l) (w : World) (hr : ReadsInt w .u8 (some ad) 8 l) :
    Calls Try.prog 47 #[.slice (some ad) 8 cp] w fun x w' => x = .returned (.int .u64 (bew l)) ∧ Drawn0 w w' := by
  match l, hl with
  | [a, b, c, d, e, f, g, h], _ =>
    have HB := Lib.hid (be64 ad cp a b c d e f g h hc ha w hr)
    clear hr ha
    go_enter Try.func47, Try.ntmps47
    go_wp2_with fail
    refine HB.out.mono ?_
    rintro x w' ⟨rfl, hd⟩
    go_wp2_with fail
    go_ret
    exact ⟨rfl, hd⟩
end Go.Proofs.Ytdfcomilhjoooaa.Be
