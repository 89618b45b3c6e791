/- Contract of impl.whole: a BigInt of the words, noughts at the end left out. Lengths up to a hundred thousand words. -/
import Derived.Test.YtdfcomilhjoooaaGreatDoorBase5
namespace Go.Proofs.YtdfcomilhjoooaaGreatDoor.Base
open Go.RowKit Go.Proofs.YtdfcomilhjoooaaGreatDoorW.PrintWords

theorem own_form {w : World} {B e n : Nat} {v : Value} {xs : List Value} (h : w.ownsRow B e 1 v n xs) : ∃ A c, v = .slice A n c ∧ n ≤ c ∧ c ≤ 9223372036854775807 ∧ (A = none → c = 0) ∧ ∀ ad, A = some ad → ad.block < w.heap.size ∧ B ≤ ad.block := by
  rcases h.2 with ⟨rfl, rfl⟩ | ⟨g, cap, cur, rfl, hg, hh, hcap, hmax, _⟩
  · exact ⟨none, 0, rfl, by omega, by omega, fun _ => rfl, fun ad h => by cases h⟩
  · exact ⟨_, cap, rfl, hcap, hmax, (fun h => by cases h), fun ad h => by cases h; exact ⟨blk_lt hh, hg⟩⟩
/-- a row cut short is owned still -/
theorem own_take {w : World} {B e n m c : Nat} {A : Option Addr} {l : List Int} (h : w.ownsRow B e 1 (.slice A n c) n (nums .u64 l)) (hm : m ≤ n) : w.ownsRow B e 1 (.slice A m c) m (nums .u64 (l.take m)) := by
  obtain ⟨hl, h2⟩ := h
  have hl' : l.length = n := by simpa [nums_length] using hl
  refine ⟨by simp [nums_length]; omega, ?_⟩
  rcases h2 with ⟨hv, rfl⟩ | ⟨g, cap, cur, hv, hg, hh, hcap, hmax, hcs, htk⟩
  · obtain rfl : m = 0 := by omega
    injection hv with h1 _ h3
    subst h1; subst h3
    exact .inl ⟨rfl, rfl⟩
  · injection hv with h1 _ h3
    subst h1; subst h3
    refine .inr ⟨g, c, cur, rfl, hg, hh, by omega, hmax, hcs, ?_⟩
    rw [Nat.mul_one] at htk ⊢
    have e : nums .u64 (l.take m) = (nums .u64 l).take m := by simp [nums]
    rw [e, ← htk, List.take_take, Nat.min_eq_left hm]

set_option maxRecDepth 100000 in
set_option maxHeartbeats 2000000 in
theorem whole_any (A : Option Addr) (c : Nat) (l : List Int) (hl : l.length ≤ 100000) (w : World) (hr : ReadsInt w .u64 A l.length l) :
    Calls Tryz.prog 20 #[.slice A l.length c] w fun e w' => ∃ b A' c', e = .returned (.pointer (some ⟨b, 0, none⟩)) ∧ w.heap.size ≤ b ∧
      w'.heap[b]? = some (.cells #[.bool false, .slice A' (nlTo l l.length) c', .bool false] 55 (0, 0)) ∧
      w'.ownsRow w.heap.size 74 1 (.slice A' (nlTo l l.length) c') (nlTo l l.length) (nums .u64 (l.take (nlTo l l.length))) ∧ c' ≤ nlTo l l.length + 4 ∧ (A' = none → c' = 0) ∧ Below w.heap.size w w' := by
  obtain ⟨i0, hi, hz0, hz1, hz2⟩ := info_parts infoW
  have HR := Lib.hid hr
  clear hr
  obtain ⟨n, hn⟩ : ∃ n, n = l.length := ⟨_, rfl⟩
  rw [← hn] at HR hl ⊢
  have HN := Lib.hid hn
  clear hn
  obtain ⟨m, hm⟩ : ∃ m, m = nlTo l n := ⟨_, rfl⟩
  rw [← hm]
  have HMD := Lib.hid hm
  clear hm
  go_enter Tryz.func20, Tryz.ntmps20
  go_wp2_with fail
  go_loopw [3, 8] (fun v3 v8 wr => ∃ k : Nat, k ≤ n ∧ v8 = .int .i64 k ∧ wr.ownsRow w.heap.size 74 1 v3 k (nums .u64 (l.take k)) ∧ Below w.heap.size w wr)
    (fun _ v8 _ => n - (intOf v8).toNat)
  case atStart => exact ⟨0, Nat.zero_le _, rfl, own_nil _ _ _ _, Below.refl _ _⟩
  case round =>
    obtain ⟨k, hk, rfl, ho, hb⟩ := hrel
    have HO := Lib.hid ho
    have HB := Lib.hid hb
    clear ho hb
    by_cases hlt : k < n
    · have hn := HN.out
      obtain ⟨ad, rfl, hcl⟩ := reads_cells (HR.out.below HB.out) (by omega)
      have hcell : wr.cell? (ad.add k) = some (.int .u64 (l.getD k 0)) := by
        refine hcl k _ ?_
        simp only [nums, List.getElem?_map, List.getD_eq_getElem?_getD]
        rw [List.getElem?_eq_getElem (by omega)]
        rfl
      clear hcl hn
      obtain ⟨x, hx⟩ : ∃ x, x = l.getD k 0 := ⟨_, rfl⟩
      rw [← hx] at hcell
      have HX := Lib.hid hx
      clear hx
      go_wp2_with (first | (at_builtin; refine wpList_append_own _ rfl _ _ 50 rfl w.heap.size 74 i0 (.int .u64 0) 1 8 Tryz.underlying50 hi hz0 hz1 hz2 rfl (by decide) _ _ _ rfl (HO.out.alloc _) ⟨wr.heap.size, 0, none⟩ 1 1 [.int .u64 x] rfl rfl (new_one _ _ _) (fun u hu => by simp at hu; subst hu; rfl) (by unfold maxLen; omega) (by omega) (by have := HB.out.size; simp; omega) ?_; intro v' w1 hown' hgrow _))
      have R := gather (o := .cells #[.int .u64 x] 74) (by have := HN.out; omega) HB.out HO.out (by rw [← HX.out]; exact hown') hgrow
      clear hown' hgrow
      go_wp2_with fail
      go_roundw
      case rel => exact ⟨k + 1, by omega, by go_num, R.1, R.2⟩
      case measure => simp [intOf]; omega
    · obtain rfl : k = n := by omega
      have ho := HO.out
      rw [HN.out, List.take_length, ← HN.out] at ho
      have HO' := Lib.hid ho
      clear HO ho
      obtain ⟨A1, c1, rfl, hc1, hcm, hA1, hblk⟩ := own_form HO'.out
      have HC1 := Lib.hid hc1
      have HCM := Lib.hid hcm
      have HA1 := Lib.hid hA1
      have HBK := Lib.hid hblk
      clear hc1 hcm hA1 hblk hlt hk
      have HSB := Lib.hid (setbits (wr.heap.size + 1) 53 #[.bool false, .slice none 0 0] false (.slice none 0 0) ⟨rfl, rfl⟩ A1 c1 l (by rw [← HN.out]; exact hl) (by rw [← HN.out]; exact HC1.out) HCM.out HA1.out
        ((wr.alloc (.cells #[.bool false, .slice none 0 0, .bool false] 55)).alloc (.cells #[.bool false, .slice none 0 0] 53))
        (by rw [← HN.out]; exact ((own_reads' HO'.out).below (below_alloc (Below.refl _ _) _)).below (below_alloc (Below.refl _ _) _)) (by have := blk_new (wr.alloc (.cells #[.bool false, .slice none 0 0, .bool false] 55)) (.cells #[.bool false, .slice none 0 0] 53); simpa using this))
      rw [← HN.out] at HSB
      go_wp2_with fail
      rw [← HMD.out] at HSB
      have hmk : m ≤ k := by rw [HMD.out]; exact nlTo_le l k
      have hlm : (l.take m).length = m := by have := HN.out; simp; omega
      have hro : ReadsInt wr .u64 A1 m (l.take m) := own_reads' (own_take HO'.out hmk)
      have HSM := Lib.hid (setmath wr.heap.size 0 (wr.heap.size + 1) 0 55 53 #[.bool false, .slice none 0 0, .bool false] #[.bool false, .slice A1 m c1] (by omega) false false false A1 c1 (l.take m) (by omega)
        ((wr.alloc (.cells #[.bool false, .slice none 0 0, .bool false] 55)).alloc (.cells #[.bool false, .slice A1 m c1] 53))
        (by rw [hlm]; exact (hro.below (below_alloc (Below.refl _ _) _)).below (below_alloc (Below.refl _ _) _)) (blk_alloc (blk_new wr _) _)
        (by have := blk_new (wr.alloc (.cells #[.bool false, .slice none 0 0, .bool false] 55)) (.cells #[.bool false, .slice A1 m c1] 53); simpa using this)
        ⟨rfl, rfl⟩ ⟨rfl, by rw [hlm]; rfl⟩ (fun ad h => by have := (HBK.out ad h).1; omega) rfl)
      rw [hlm] at HSM
      have HBw : Hid (Below w.heap.size w ((wr.alloc (.cells #[.bool false, .slice none 0 0, .bool false] 55)).alloc (.cells #[.bool false, .slice A1 m c1] 53))) :=
        Lib.hid (by have h0 := HB.out; have h1 := h0.size; exact (h0.alloc h1 _).alloc (by simp; omega) _)
      have HSZ := Lib.hid HB.out.size
      clear hro hlm hmk HMD HO' HC1 HCM HA1 HBK HR HB
      refine HSB.out.mono ?_; rintro e w2 ⟨rfl, hw⟩; subst hw
      clear HSB
      go_wp2_with fail
      refine HSM.out.mono ?_
      rintro e w3 ⟨A', c', rfl, hbut, hblk, hown, hc, hA'⟩
      have HBUT := Lib.hid hbut
      have HBLK := Lib.hid hblk
      have HOWN := Lib.hid hown
      have HC' := Lib.hid hc
      have HA' := Lib.hid hA'
      clear hbut hblk hown hc hA' HSM
      go_wp2_with fail
      go_ret
      exact ⟨_, A', c', rfl, HSZ.out, HBLK.out, own_lower HOWN.out (by have := HSZ.out; simp; omega), HC'.out, HA'.out, HBw.out.trans (HBUT.out.below HSZ.out (by have := HSZ.out; simp; omega))⟩
end Go.Proofs.YtdfcomilhjoooaaGreatDoor.Base
