/- Contracts of BigInt.Set, SetMathBigInt, MathBigInt, Bits, SetBits. Lengths up to a hundred thousand words. -/
import Derived.Test.YtdfcomilhjoooaaGreatDoorBase3
namespace Go.Proofs.YtdfcomilhjoooaaGreatDoor.Base
open Go.RowKit Go.Proofs.YtdfcomilhjoooaaGreatDoorW.PrintWords

/-- The world is the old one but for block b, and for what is new. -/
structure But (b : Nat) (w w' : World) : Prop where
  os : w'.os = w.os
  tape : w'.tape = w.tape
  output : w'.output = w.output
  size : w.heap.size ≤ w'.heap.size
  block : ∀ i, i < w.heap.size → i ≠ b → w'.heap[i]? = w.heap[i]?
theorem But.refl (b : Nat) (w : World) : But b w w := ⟨rfl, rfl, rfl, Nat.le_refl _, fun _ _ _ => rfl⟩
theorem But.of_below {b : Nat} {w w' : World} (h : Below w.heap.size w w') : But b w w' := ⟨h.os, h.tape, h.output, h.size, fun i hi _ => h.block i hi⟩
theorem But.trans {b : Nat} {w w1 w2 : World} (h : But b w w1) (k : But b w1 w2) : But b w w2 :=
  ⟨k.os.trans h.os, k.tape.trans h.tape, k.output.trans h.output, Nat.le_trans h.size k.size, fun i hi hb => (k.block i (Nat.lt_of_lt_of_le hi h.size) hb).trans (h.block i hi hb)⟩
theorem But.set {b : Nat} {w w1 : World} (h : But b w w1) (i : Nat) (v : Value) : But b w (w1.setCell ⟨b, i, none⟩ v) :=
  ⟨h.os, h.tape, h.output, by rw [World.size_setCell]; exact h.size, fun k hk hb => (Below.heap_setCell w1 ⟨b, i, none⟩ v k hb).trans (h.block k hk hb)⟩
theorem But.drew {b : Nat} {w w1 : World} (h : But b w w1) : But b w w1.drew := ⟨h.os, h.tape, h.output, h.size, h.block⟩
theorem But.below {b B : Nat} {w w' : World} (h : But b w w') (hb : B ≤ b) (hB : B ≤ w.heap.size) : Below B w w' :=
  ⟨h.os, h.tape, h.output, h.size, fun i hi => h.block i (Nat.lt_of_lt_of_le hi hB) (by omega)⟩
theorem But.blk {b g : Nat} {o : Obj} {w w' : World} (h : But b w w') (hg : w.heap[g]? = some o) (hne : g ≠ b) : w'.heap[g]? = some o := (h.block g (blk_lt hg) hne).trans hg

theorem own_lower {w : World} {B B' e s n : Nat} {v : Value} {xs : List Value} (h : w.ownsRow B e s v n xs) (hB : B' ≤ B) : w.ownsRow B' e s v n xs := own_weaken h hB
theorem add_block (a : Addr) (j : Nat) : (a.add j).block = a.block := by unfold Addr.add; split <;> rfl
theorem own_set {w : World} {B e s n b i : Nat} {v u : Value} {xs : List Value} (h : w.ownsRow B e s v n xs) (hb : b < B) : (w.setCell ⟨b, i, none⟩ u).ownsRow B e s v n xs :=
  own_move h (fun k hk => Below.heap_setCell w ⟨b, i, none⟩ u k (by have := (h.lt k hk).1; show k ≠ b; omega))
theorem reads_set {w : World} {k : IntKind} {A : Option Addr} {n b i : Nat} {l : List Int} (h : ReadsInt w k A n l) (hA : ∀ ad, A = some ad → ¬ ad.block = b) (u : Value) : ReadsInt (w.setCell ⟨b, i, none⟩ u) k A n l :=
  ⟨h.1, h.2.1, fun hn => by
    obtain ⟨ad, e, hc⟩ := h.2.2 hn
    refine ⟨ad, e, fun j hj => ?_⟩
    rw [← hc j hj]
    exact World.cell?_of_block (Below.heap_setCell w ⟨b, i, none⟩ u _ (by rw [add_block]; exact hA ad e))⟩

/-- a big.Int's two cells, a BigInt's three, from place o on -/
def isInt (cs : Array Value) (o : Nat) (neg : Bool) (v : Value) : Prop := cs[o]? = some (.bool neg) ∧ cs[o + 1]? = some v
theorem isInt_set {cs : Array Value} {o : Nat} {n n' : Bool} {v v' : Value} (h : isInt cs o n v) : isInt ((cs.setIfInBounds (o + 1) v').setIfInBounds o (.bool n')) o n' v' := by
  have h0 : o < cs.size := (Array.getElem?_eq_some_iff.1 h.1).1
  have h1 : o + 1 < cs.size := (Array.getElem?_eq_some_iff.1 h.2).1
  constructor
  · simp [h0]
  · rw [Array.getElem?_setIfInBounds_ne (by omega)]; simp [h1]

theorem intset (b1 o1 b2 o2 t1 t2 : Nat) (c1 c2 : Array Value) (hne : ¬ b1 = b2) (xn zn : Bool) (A : Option Addr) (c : Nat) (l : List Int) (hl : l.length ≤ 100000) (w : World) (hr : ReadsInt w .u64 A l.length l)
    (hb1 : w.heap[b1]? = some (.cells c1 t1 (0, 0))) (hb2 : w.heap[b2]? = some (.cells c2 t2 (0, 0))) (hz : isInt c1 o1 zn (.slice none 0 0)) (hx : isInt c2 o2 xn (.slice A l.length c)) :
    Calls Tryz.prog 32 #[.pointer (some ⟨b1, o1, none⟩), .pointer (some ⟨b2, o2, none⟩)] w fun e w' => ∃ A' c', e = .returned (.pointer (some ⟨b1, o1, none⟩)) ∧
      But b1 w w' ∧ w'.heap[b1]? = some (.cells ((c1.setIfInBounds (o1 + 1) (.slice A' l.length c')).setIfInBounds o1 (.bool xn)) t1 (0, 0)) ∧
      w'.ownsRow w.heap.size 74 1 (.slice A' l.length c') l.length (nums .u64 l) ∧ c' ≤ l.length + 4 ∧ (A' = none → c' = 0) := by
  refine (intset_any b1 o1 b2 o2 t1 t2 c1 c2 hne xn zn A c l hl w hr hb1 hb2 hz.1 hz.2 hx.1 hx.2).mono ?_
  rintro e w' ⟨w1, A', c', rfl, hbel, hown, hc, hA, rfl⟩
  have hb1' := blk_below hb1 hbel
  refine ⟨A', c', rfl, ((But.of_below hbel).set _ _).set _ _, blk_set (blk_set hb1' _ _) _ _, own_set (own_set hown (blk_lt hb1)) (blk_lt hb1), hc, hA⟩

set_option maxRecDepth 100000 in
set_option maxHeartbeats 1000000 in
theorem bigset (b1 o1 b2 o2 t1 t2 : Nat) (c1 c2 : Array Value) (hne : ¬ b1 = b2) (xn zn xm zm : Bool) (A : Option Addr) (c : Nat) (l : List Int) (hl : l.length ≤ 100000) (w : World) (hr : ReadsInt w .u64 A l.length l)
    (hb1 : w.heap[b1]? = some (.cells c1 t1 (0, 0))) (hb2 : w.heap[b2]? = some (.cells c2 t2 (0, 0))) (hz : isInt c1 o1 zn (.slice none 0 0)) (hx : isInt c2 o2 xn (.slice A l.length c))
    (hA : ∀ ad, A = some ad → ¬ ad.block = b1) (hzm : c1[o1 + 2]? = some (.bool zm)) (hxm : c2[o2 + 2]? = some (.bool xm)) :
    Calls Tryz.prog 19 #[.pointer (some ⟨b1, o1, none⟩), .pointer (some ⟨b2, o2, none⟩)] w fun e w' => ∃ A' c', e = .returned (.pointer (some ⟨b1, o1, none⟩)) ∧
      But b1 w w' ∧ w'.heap[b1]? = some (.cells (((c1.setIfInBounds (o1 + 2) (.bool xm)).setIfInBounds (o1 + 1) (.slice A' l.length c')).setIfInBounds o1 (.bool xn)) t1 (0, 0)) ∧
      w'.ownsRow w.heap.size 74 1 (.slice A' l.length c') l.length (nums .u64 l) ∧ c' ≤ l.length + 4 ∧ (A' = none → c' = 0) := by
  have Z2 : w.cell? ⟨b1, o1 + 2, none⟩ = some (.bool zm) := (blk_cell hb1 (o1 + 2)).trans hzm
  have X2 : w.cell? ⟨b2, o2 + 2, none⟩ = some (.bool xm) := (blk_cell hb2 (o2 + 2)).trans hxm
  have F2 := blk_frozen hb1 (o1 + 2)
  have h3 : isInt (c1.setIfInBounds (o1 + 2) (.bool xm)) o1 zn (.slice none 0 0) := ⟨by rw [Array.getElem?_setIfInBounds_ne (by omega)]; exact hz.1, by rw [Array.getElem?_setIfInBounds_ne (by omega)]; exact hz.2⟩
  have hr2 : ReadsInt (w.setCell ⟨b1, o1 + 2, none⟩ (.bool xm)) .u64 A l.length l := reads_set hr hA _
  have C := Lib.hid (intset b1 o1 b2 o2 t1 t2 _ c2 hne xn zn A c l hl (World.drew (w.setCell ⟨b1, o1 + 2, none⟩ (.bool xm))) hr2 (blk_set hb1 (o1 + 2) (.bool xm)) (blk_far hb2 (p := ⟨b1, o1 + 2, none⟩) (Ne.symm hne) (.bool xm)) h3 hx)
  clear hr hb1 hb2 hz hx hzm hxm hr2 h3
  go_enter Tryz.func19, Tryz.ntmps19
  go_wp2_with fail
  refine region_tail 6 (by kernel_rfl) (by kernel_rfl) ?_
  simp only [List.take_succ_cons, List.take_zero, List.drop_succ_cons, List.drop_zero]
  repeat still_step
  refine wpStill_nil ?_
  go_wp2_with fail
  refine C.out.mono ?_
  rintro e w2 ⟨A', c', rfl, hbut, hblk, hown, hc, hA'⟩
  have HBUT := Lib.hid hbut
  have HBLK := Lib.hid hblk
  have HOWN := Lib.hid hown
  have HC' := Lib.hid hc
  have HA' := Lib.hid hA'
  clear hbut hblk hown hc hA' C
  go_wp2_with fail
  go_ret
  exact ⟨A', c', rfl, (((But.refl b1 w).set _ _).drew).trans HBUT.out, HBLK.out, own_lower HOWN.out (by simp), HC'.out, HA'.out⟩

set_option maxRecDepth 100000 in
set_option maxHeartbeats 1000000 in
theorem setmath (b1 o1 b2 o2 t1 t2 : Nat) (c1 c2 : Array Value) (hne : ¬ b1 = b2) (xn zn zm : Bool) (A : Option Addr) (c : Nat) (l : List Int) (hl : l.length ≤ 100000) (w : World) (hr : ReadsInt w .u64 A l.length l)
    (hb1 : w.heap[b1]? = some (.cells c1 t1 (0, 0))) (hb2 : w.heap[b2]? = some (.cells c2 t2 (0, 0))) (hz : isInt c1 o1 zn (.slice none 0 0)) (hx : isInt c2 o2 xn (.slice A l.length c))
    (hA : ∀ ad, A = some ad → ¬ ad.block = b1) (hzm : c1[o1 + 2]? = some (.bool zm)) :
    Calls Tryz.prog 33 #[.pointer (some ⟨b1, o1, none⟩), .pointer (some ⟨b2, o2, none⟩)] w fun e w' => ∃ A' c', e = .returned (.pointer (some ⟨b1, o1, none⟩)) ∧
      But b1 w w' ∧ w'.heap[b1]? = some (.cells (((c1.setIfInBounds (o1 + 2) (.bool false)).setIfInBounds (o1 + 1) (.slice A' l.length c')).setIfInBounds o1 (.bool xn)) t1 (0, 0)) ∧
      w'.ownsRow w.heap.size 74 1 (.slice A' l.length c') l.length (nums .u64 l) ∧ c' ≤ l.length + 4 ∧ (A' = none → c' = 0) := by
  have Z2 : w.cell? ⟨b1, o1 + 2, none⟩ = some (.bool zm) := (blk_cell hb1 (o1 + 2)).trans hzm
  have F2 := blk_frozen hb1 (o1 + 2)
  have h3 : isInt (c1.setIfInBounds (o1 + 2) (.bool false)) o1 zn (.slice none 0 0) := ⟨by rw [Array.getElem?_setIfInBounds_ne (by omega)]; exact hz.1, by rw [Array.getElem?_setIfInBounds_ne (by omega)]; exact hz.2⟩
  have hr2 : ReadsInt (w.setCell ⟨b1, o1 + 2, none⟩ (.bool false)) .u64 A l.length l := reads_set hr hA _
  have C := Lib.hid (intset b1 o1 b2 o2 t1 t2 _ c2 hne xn zn A c l hl (w.setCell ⟨b1, o1 + 2, none⟩ (.bool false)) hr2 (blk_set hb1 (o1 + 2) (.bool false)) (blk_far hb2 (p := ⟨b1, o1 + 2, none⟩) (Ne.symm hne) (.bool false)) h3 hx)
  clear hr hb1 hb2 hz hx hzm hr2 h3 hA
  go_enter Tryz.func33, Tryz.ntmps33
  go_wp2_with fail
  refine C.out.mono ?_
  rintro e w2 ⟨A', c', rfl, hbut, hblk, hown, hc, hA'⟩
  have HBUT := Lib.hid hbut
  have HBLK := Lib.hid hblk
  have HOWN := Lib.hid hown
  have HC' := Lib.hid hc
  have HA' := Lib.hid hA'
  clear hbut hblk hown hc hA' C
  go_wp2_with fail
  go_ret
  exact ⟨A', c', rfl, ((But.refl b1 w).set _ _).trans HBUT.out, HBLK.out, own_lower HOWN.out (by simp), HC'.out, HA'.out⟩

set_option maxRecDepth 100000 in
set_option maxHeartbeats 1000000 in
theorem setbits (b : Nat) (t : Nat) (c1 : Array Value) (n0 : Bool) (v0 : Value) (h0 : isInt c1 0 n0 v0) (A : Option Addr) (c : Nat) (l : List Int) (hl : l.length ≤ 100000) (hc : l.length ≤ c) (hcm : c ≤ 9223372036854775807) (hA : A = none → c = 0)
    (w : World) (hr : ReadsInt w .u64 A l.length l) (hb : w.heap[b]? = some (.cells c1 t (0, 0))) :
    Calls Tryz.prog 34 #[.pointer (some ⟨b, 0, none⟩), .slice A l.length c] w fun e w' => e = .returned (.pointer (some ⟨b, 0, none⟩)) ∧
      (w.setCell ⟨b, 1, none⟩ (.slice A (nlTo l l.length) c)).setCell ⟨b, 0, none⟩ (.bool false) = w' := by
  have Z0 : w.cell? ⟨b, 0, none⟩ = some (.bool n0) := (blk_cell hb 0).trans h0.1
  have Z1 : w.cell? ⟨b, 1, none⟩ = some v0 := (blk_cell hb 1).trans h0.2
  have F0 := blk_frozen hb 0
  have F1 := blk_frozen hb 1
  have C := Lib.hid (norm_any A c l hl hc hcm hA w hr)
  clear hr hb hc hcm hA h0 hl
  obtain ⟨n, hn⟩ : ∃ n, n = l.length := ⟨_, rfl⟩
  rw [← hn] at C ⊢
  clear hn
  go_enter Tryz.func34, Tryz.ntmps34
  go_wp2_with fail
  refine C.out.mono ?_
  rintro e w2 ⟨rfl, rfl⟩
  clear C
  go_wp2_with fail
  go_ret
  exact ⟨rfl, rfl⟩
end Go.Proofs.YtdfcomilhjoooaaGreatDoor.Base
