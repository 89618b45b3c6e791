/- strconv.AppendInt of a natural number at base ten, onto bytes of one's own, whatever kind of block holds them. -/
import Derived.Test.YtdfcomilhjoooaaGreatDoorFmtF
import Derived.Test.YtdfcomilhjoooaaGreatDoorShelf
import Derived.Lib.AppendIntMem
import Derived.Lib.ItoaMem
import Derived.Lib.ItoaWalk
namespace Go.Proofs.YtdfcomilhjoooaaGreatDoor.Div
open Go.RowKit Go.Sort Go.Lib Go.Proofs.YtdfcomilhjoooaaGreatDoorW.PrintWords Go.Proofs.YtdfcomilhjoooaaGreatDoor.Base Go.Proofs.YtdfcomilhjoooaaGreatDoor.Num Go.Proofs.YtdfcomilhjoooaaGreatDoor.Flo Go.Proofs.YtdfcomilhjoooaaGreatDoor.Byt
set_option linter.unusedVariables false

/-- the figures of a number -/
def decI (u : Nat) : List Int := (Lib.decDigits u).map fun b => (b.toNat : Int)
theorem decI_cells (u : Nat) : nums .u8 (decI u) = Lib.byteCells (Lib.decDigits u) := by
  unfold nums decI Lib.byteCells
  rw [List.map_map]
  rfl
theorem decI_len (u : Nat) : (decI u).length = (Lib.decDigits u).length := by unfold decI; rw [List.length_map]
theorem decI_le (u : Nat) (h : u < 18446744073709551616) : (decI u).length ≤ 20 := by
  rw [decI_len, Lib.decDigits_length]
  by_cases h1 : 1 ≤ u
  · have := Lib.numDigits_eq u h1 h; split at this <;> omega
  · have : u < 10 := by omega
    rw [Lib.nDigits_small this]; omega
theorem src_dec {P : Program} {w : World} {tx : TypeId} (hk : P.underlying tx = some .string) (u : Nat) : Src P 1 tx (.string ⟨(Lib.decDigits u).toArray⟩) (decI u).length (nums .u8 (decI u)) w := by
  have h := Src.ofString w hk ⟨(Lib.decDigits u).toArray⟩
  have e1 : (⟨(Lib.decDigits u).toArray⟩ : ByteArray).size = (decI u).length := by rw [decI_len]; simp [ByteArray.size]
  have e2 : Go.byteCells ⟨(Lib.decDigits u).toArray⟩ = nums .u8 (decI u) := by
    rw [decI_cells]
    simp [Go.byteCells, Lib.byteCells]
  rw [e1, e2] at h
  exact h

set_option maxHeartbeats 6400000 in
set_option maxRecDepth 100000 in
theorem appU_small (g0 u : Nat) (hu : u < 100) (v : Value) (bs : List Int) (w : World) (hf : Fm g0 w v bs w) (hbs : bs.length ≤ 2000) :
    Calls Tryz.prog 64 #[v, .int .u64 u, .int .i64 10] w fun e w' => ∃ v', e = .returned v' ∧ Fm g0 w v' (bs ++ decI u) w' := by
  obtain ⟨i0, hi, hz0, hz1, hz2⟩ := info_parts infoB
  obtain ⟨g, c, rfl⟩ := hf.sh
  obtain ⟨nb, hnb⟩ : ∃ nb, nb = bs.length := ⟨_, rfl⟩
  rw [← hnb] at hf ⊢
  have HF := Lib.hid hf
  have HL : Hid (bs.length + (decI u).length ≤ 100000) := Lib.hid (by have := decI_le u (by omega); omega)
  clear hf hnb hbs
  go_enter Tryz.func64, Tryz.ntmps64
  go_wp2_with (first
    | (go_at_call 84; refine (Tryz.internal_strconv_small u hu _).mono ?_; rintro e w' ⟨rfl, rfl⟩)
    | (at_builtin; refine wpList_append_fm HF.out (decI u) rfl _ _ 22 9 rfl 5 i0 Tryz.underlying22 hi hz0 hz1 hz2 rfl _ rfl (src_dec Tryz.underlying9 u) HL.out ?_))
  intro v' w1 hf1
  have HF1 := Lib.hid hf1
  clear hf1 HF HL
  go_wp2_with fail
  go_ret
  exact ⟨_, rfl, HF1.out⟩

set_option maxHeartbeats 12800000 in
set_option maxRecDepth 100000 in
theorem appU_big (g0 u : Nat) (hu : 100 ≤ u) (hu64 : u < 18446744073709551616) (v : Value) (bs : List Int) (w : World) (hf : Fm g0 w v bs w) (hbs : bs.length ≤ 2000) (htab : Lib.TabIs Tryz.prog w "internal/strconv.uint64pow10" .u64 Lib.pow10Tab) :
    Calls Tryz.prog 64 #[v, .int .u64 u, .int .i64 10] w fun e w' => ∃ v', e = .returned v' ∧ Fm g0 w v' (bs ++ decI u) w' := by
  obtain ⟨i0, hi, hz0, hz1, hz2⟩ := info_parts infoB
  have hu1 : 1 ≤ u := by omega
  have hnd20 : Lib.nDigits u ≤ 20 := by have := Lib.numDigits_eq u hu1 hu64; split at this <;> omega
  have hal : Tryz.prog.arrayLen 127 = 24 := by kernel_rfl
  have hsl : ∀ W, (Instr.sliceAt 127 (.pointer (some ⟨w.heap.size, 0, none⟩)) none (some (.int .i64 (Lib.nDigits u : Int))) none).run Tryz.prog W = .ok (.slice (some ⟨w.heap.size, 0, none⟩) (Lib.nDigits u) 24) W := fun W => by
    rw [run_sliceAt_array_h W 127 ⟨w.heap.size, 0, none⟩ (by kernel_rfl) .i64 (Lib.nDigits u : Int) (by omega) (by rw [hal]; omega)]
    go_simp
  have hH0 := Lib.holds_zero0 w 127 (Lib.nDigits u) (by omega)
  have hfmt := Tryz.internal_strconv_formatBase10 w.heap.size 0 24 u (Array.replicate (Lib.nDigits u) 0) (w.alloc (.cells Lib.zeros24 127)) hH0 (by rw [Array.size_replicate]; exact Lib.lt_pow_nDigits u) hu64 (by rw [Array.size_replicate]; omega)
  rw [Array.size_replicate] at hfmt
  have HH0 := Lib.hid hH0
  have iu : (100 : Int) ≤ (u : Int) := by omega
  obtain ⟨g, c, rfl⟩ := hf.sh
  obtain ⟨nb, hnb⟩ : ∃ nb, nb = bs.length := ⟨_, rfl⟩
  rw [← hnb] at hf ⊢
  have HF := Lib.hid hf
  have HL : Hid (bs.length + (decI u).length ≤ 100000) := Lib.hid (by have := decI_le u hu64; omega)
  have HND := Lib.hid hnd20
  have HFM := Lib.hid hfmt
  have HTB := Lib.hid htab
  clear hH0 hal hf hnb hbs hfmt htab hnd20
  go_enter Tryz.func64, Tryz.ntmps64
  go_wp2_with (first
    | (go_at_call 85; refine (Tryz.internal_strconv_numDigits u hu1 hu64 _ (Lib.tabIs_alloc HTB.out _)).mono ?_; rintro e w' ⟨rfl, rfl⟩))
  go_at_call 86
  refine HFM.out.mono ?_
  rintro e w' ⟨rfl, k, v', dk, rfl, hF⟩
  have hcells : ∀ j u', (Lib.byteCells (Lib.decDigits u))[j]? = some u' → ((putRow (fun (b : UInt8) => Value.int .u8 (b.toNat : Int)) (w.alloc (.cells Lib.zeros24 127)) w.heap.size 0 dk).drewN k).cell? ((⟨w.heap.size, 0, none⟩ : Addr).add j) = some u' := by
    intro j u' hj
    have hjl : j < (Lib.decDigits u).length := by
      have h5 := (List.getElem?_eq_some_iff.1 hj).1
      rwa [Lib.byteCells_length] at h5
    have e5 : (Lib.byteCells (Lib.decDigits u))[j]? = some (Value.int .u8 ((Lib.decDigits u)[j].toNat : Int)) := by simp [Lib.byteCells, hjl]
    rw [e5] at hj
    cases hj
    rw [Lib.row_is_numeral hF j hjl, Lib.add_plain, World.cell?_drewN]
    exact cell?_putRow (fun (b : UInt8) => Value.int .u8 (b.toNat : Int)) _ w.heap.size 0 _ dk HH0.out (by rw [hF.size, Array.size_replicate]) j (by rw [hF.size]; rw [Lib.decDigits_length] at hjl; exact hjl)
  obtain ⟨os, eo⟩ := Lib.fin_at w (.cells Lib.zeros24 127) dk k 0
  have hf2 : Fm g0 w (.slice (some ⟨g, 0, none⟩) nb c) bs ((putRow (fun (b : UInt8) => Value.int .u8 (b.toNat : Int)) (w.alloc (.cells Lib.zeros24 127)) w.heap.size 0 dk).drewN k) := by rw [eo]; exact HF.out.below (Lib.below_grow w.heap.size w (Nat.le_refl _) k os)
  generalize (putRow (fun (b : UInt8) => Value.int .u8 (b.toNat : Int)) (w.alloc (.cells Lib.zeros24 127)) w.heap.size 0 dk).drewN k = W2 at hcells hf2 ⊢
  have HSR : Hid (Src Tryz.prog 1 22 (.slice (some ⟨w.heap.size, 0, none⟩) (Lib.nDigits u) 24) (decI u).length (nums .u8 (decI u)) W2) := Lib.hid (by
    have e1 : (decI u).length = Lib.nDigits u := by rw [decI_len, Lib.decDigits_length]
    rw [e1]
    refine Src.ofSlice W2 Tryz.underlying22 _ _ _ _ (by rw [nums_length, e1, Nat.mul_one]) ?_ (nums_one .u8 _)
    rw [decI_cells]
    exact hcells)
  have HF2 := Lib.hid hf2
  clear eo HH0 HFM hf2 hcells hF HF
  go_wp2_with (at_builtin; refine wpList_append_fm HF2.out (decI u) rfl _ _ 22 22 rfl 5 i0 Tryz.underlying22 hi hz0 hz1 hz2 rfl _ rfl HSR.out HL.out ?_)
  intro v2 w3 hf3
  have HF3 := Lib.hid hf3
  clear hf3 HF2 HSR HL
  go_wp2_with fail
  go_ret
  exact ⟨_, rfl, HF3.out⟩

theorem appU (g0 u : Nat) (hu64 : u < 18446744073709551616) (v : Value) (bs : List Int) (w : World) (hf : Fm g0 w v bs w) (hbs : bs.length ≤ 2000) (htab : Lib.TabIs Tryz.prog w "internal/strconv.uint64pow10" .u64 Lib.pow10Tab) :
    Calls Tryz.prog 64 #[v, .int .u64 u, .int .i64 10] w fun e w' => ∃ v', e = .returned v' ∧ Fm g0 w v' (bs ++ decI u) w' := by
  by_cases h : u < 100
  · exact appU_small g0 u h v bs w hf hbs
  · exact appU_big g0 u (by omega) hu64 v bs w hf hbs htab

set_option maxRecDepth 100000 in
theorem appI0 (g0 u : Nat) (hu : u ≤ 1000000) (v : Value) (bs : List Int) (w : World) (hf : Fm g0 w v bs w) (hbs : bs.length ≤ 2000) (htab : Lib.TabIs Tryz.prog w "internal/strconv.uint64pow10" .u64 Lib.pow10Tab) :
    Calls Tryz.prog 47 #[v, .int .i64 u, .int .i64 10] w fun e w' => ∃ v', e = .returned v' ∧ Fm g0 w v' (bs ++ decI u) w' := by
  have H := Lib.hid (appU g0 u (by omega) v bs w hf hbs htab)
  obtain ⟨g, c, rfl⟩ := hf.sh
  obtain ⟨nb, hnb⟩ : ∃ nb, nb = bs.length := ⟨_, rfl⟩
  rw [← hnb] at H ⊢
  clear hf hbs htab hnb
  have h0 : ¬ ((u : Int) < 0) := by omega
  go_enter Tryz.func47, Tryz.ntmps47
  go_wp2_with (go_at_call 64; refine H.out.mono ?_; rintro e w1 ⟨v1, rfl, hf1⟩)
  have HF1 := Lib.hid hf1
  clear hf1 H
  go_wp2_with fail
  first | go_ret | go_ret2
  exact ⟨_, rfl, HF1.out⟩
set_option maxRecDepth 100000 in
theorem appI (g0 u : Nat) (hu : u ≤ 1000000) (v : Value) (bs : List Int) (w : World) (hf : Fm g0 w v bs w) (hbs : bs.length ≤ 2000) (htab : Lib.TabIs Tryz.prog w "internal/strconv.uint64pow10" .u64 Lib.pow10Tab) :
    Calls Tryz.prog 36 #[v, .int .i64 u, .int .i64 10] w fun e w' => ∃ v', e = .returned v' ∧ Fm g0 w v' (bs ++ decI u) w' := by
  have H := Lib.hid (appI0 g0 u hu v bs w hf hbs htab)
  obtain ⟨g, c, rfl⟩ := hf.sh
  obtain ⟨nb, hnb⟩ : ∃ nb, nb = bs.length := ⟨_, rfl⟩
  rw [← hnb] at H ⊢
  clear hf hbs htab hnb
  go_enter Tryz.func36, Tryz.ntmps36
  go_wp2_with (go_at_call 47; refine H.out.mono ?_; rintro e w1 ⟨v1, rfl, hf1⟩)
  have HF1 := Lib.hid hf1
  clear hf1 H
  go_wp2_with fail
  first | go_ret | go_ret2
  exact ⟨_, rfl, HF1.out⟩
end Go.Proofs.YtdfcomilhjoooaaGreatDoor.Div
