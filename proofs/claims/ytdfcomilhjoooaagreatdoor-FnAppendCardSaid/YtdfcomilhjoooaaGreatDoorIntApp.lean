/- Int.Append and BigInt.Append onto an empty piece of room: the text of the number. -/
import Derived.Test.YtdfcomilhjoooaaGreatDoorItoa
import Derived.Deep.Upon
import Derived.Deep.RegionLaw
import Derived.Deep.RegionLawGrows
import Derived.ArgAppend
namespace Go.Proofs.YtdfcomilhjoooaaGreatDoor.Div
open Go.RowKit Go.Proofs.YtdfcomilhjoooaaGreatDoorW.PrintWords Go.Proofs.YtdfcomilhjoooaaGreatDoor.Base Go.Proofs.YtdfcomilhjoooaaGreatDoor.Num Go.Proofs.YtdfcomilhjoooaaGreatDoor.Flo Go.Proofs.YtdfcomilhjoooaaGreatDoor.Byt
set_option linter.unusedVariables false

/-- bytes behind an empty piece of room -/
def AppB (l : List Int) (B : Nat) (w : World) (v' : Value) (w' : World) : Prop := ∃ ad' c', v' = .slice (some ad') l.length c' ∧ l.length ≤ c' ∧ ReadsInt w' .u8 (some ad') l.length l ∧ Below B w w' ∧ B ≤ ad'.block
theorem below_setCells {B b o : Nat} {w : World} (vs : List Value) (hB : B ≤ b) (hBw : B ≤ w.heap.size) : Below B w (w.setCells b o vs) := by
  induction vs generalizing w o with
  | nil => exact Below.refl _ _
  | cons v vs ih =>
    have h1 : Below B w (w.setCell ⟨b, o, none⟩ v) := (Below.refl _ _).setCell hB v
    exact h1.trans (ih (by rw [World.size_setCell]; exact hBw))
theorem step_append_scr {P : Program} {ops : Array Oper} {o : Oper} {a : Act} {w : World} {K : Act → World → Prop} {Q : Exit → Act → World → Prop} {E : Prop}
    (hg : o.guard = none) (s x : Operand) (t : TypeId) (hop : o.op = Op.call { callee := Callee.builtin Builtin.append, args := #[s, x], argTypes := #[t, t] })
    (e : TypeId) (i : TypeInfo) (h1 : P.underlying t = some (.slice e)) (h2 : P.info? e = some i) (h3 : i.zero = some (.int .u8 0)) (h4 : i.size = 1) (h5 : i.bytes = 1)
    (B b cap : Nat) (hs : a.eval s = .slice (some ⟨b, 0, none⟩) 0 cap) (hB : B ≤ b) (hBw : B ≤ w.heap.size)
    (ad : Addr) (c : Nat) (l : List Int) (hl : l.length ≤ 1000) (hx : a.eval x = .slice (some ad) l.length c) (hr : ReadsInt w .u8 (some ad) l.length l)
    (hspare : ∀ j, j < cap → (w.cell? ⟨b, j, none⟩).isSome = true ∧ w.frozen? ⟨b, j, none⟩ = false)
    (hK : ∀ v' w', AppB l B w v' w' → K (a.put o.dst v') w') :
    if Region.wanted o (yielded ops a.tmps) = true then Oper.wp P o a w K Q else E := by
  have hc : ∀ j u, (nums .u8 l)[j]? = some u → w.cell? (ad.add j) = some u := by
    intro j u hj
    simp only [nums, List.getElem?_map, Option.map_eq_some_iff] at hj
    obtain ⟨y, hy, rfl⟩ := hj
    have hjl : j < l.length := by
      rcases Nat.lt_or_ge j l.length with h | h
      · exact h
      · rw [List.getElem?_eq_none h] at hy; cases hy
    obtain ⟨ad', e', hcl⟩ := hr.2.2 (by omega)
    cases e'
    rw [hcl j hjl, List.getD_eq_getElem?_getD, hy]
    rfl
  by_cases hroom : 0 + l.length ≤ cap
  · refine step_append_room hg s x t hop e i 1 h1 h2 h4 b 0 0 cap hs ad l.length c (nums .u8 l) hx (by rw [nums_length, Nat.mul_one]) hc (nums_one .u8 l) hroom (fun j hj => ?_) ?_
    · rw [nums_length] at hj
      have := hspare j (by omega)
      simpa using this
    · have hin := World.cell?_setCells_in b (nums .u8 l) 0 w (fun j hj => by rw [nums_length] at hj; have := (hspare j (by omega)).1; simpa using this)
      refine hK _ _ ⟨⟨b, 0, none⟩, cap, by rw [Nat.zero_add], by omega, ⟨rfl, by omega, fun h0 => ⟨_, rfl, fun j hj => ?_⟩⟩, below_setCells _ hB hBw, hB⟩
      have := hin j (by rw [nums_length]; exact hj)
      have ea : (⟨b, 0, none⟩ : Addr).add j = ⟨b, 0 + j, none⟩ := by by_cases hj0 : j = 0 <;> simp [Addr.add, hj0]
      rw [ea, this]
      simp [nums, List.getD_eq_getElem?_getD, hj]
  · refine step_append_grows hg s x t hop e i (.int .u8 0) 1 1 h1 h2 h3 h4 h5 rfl (by decide) (some ⟨b, 0, none⟩) 0 cap [] hs (fun h => by cases h) rfl (fun _ _ j u hj => by simp at hj) ad l.length c (nums .u8 l) hx (by rw [nums_length, Nat.mul_one]) hc (nums_one .u8 l) (by omega) (by unfold maxLen; omega) (by omega) ?_
    intro v' w' hown hgrow
    have hown' : w'.ownsRow w.heap.size e 1 v' l.length (nums .u8 l) := by simpa using hown
    rcases hown'.2 with ⟨_, h0⟩ | ⟨g, c', cur, rfl, hgB, hh, hcap, _⟩
    · omega
    · exact hK _ _ ⟨⟨g, 0, none⟩, c', rfl, hcap, own_reads' hown', (Below.refl B w).grown hgrow hBw (fun k hk => by cases hk), Nat.le_trans hBw hgB⟩
/-- a piece of room of sixteen bytes -/
def Scr (S : Nat) (w : World) : Prop := ∃ cs t, w.heap[S]? = some (.cells cs t (0, 0)) ∧ cs.size = 16
theorem scr_spare {S : Nat} {w : World} (h : Scr S w) : ∀ j, j < 16 → (w.cell? ⟨S, j, none⟩).isSome = true ∧ w.frozen? ⟨S, j, none⟩ = false := by
  obtain ⟨cs, t, h1, h2⟩ := h
  intro j hj
  refine ⟨?_, blk_frozen h1 j⟩
  rw [blk_cell h1 j]
  simp [h2, hj]
/-- what Append of the coefficient gives -/
def IaOut (l : List Int) (B : Nat) (w : World) (e : Ending) (w' : World) : Prop := ∃ v, e = .returned v ∧ AppB (tx l) B w v w'
theorem txt_len (V : Int) (N : Nat) : (txt V N).length ≤ N := by
  have h : ∀ m : List Int, (m.dropWhile (fun x => x == 48)).length ≤ m.length := fun m => by
    induction m with
    | nil => exact Nat.le_refl _
    | cons x m ih =>
      by_cases hx : (x == 48) = true
      · simp only [List.dropWhile, hx, List.length_cons]; omega
      · have : (x == 48) = false := by simpa using hx
        simp only [List.dropWhile, this]; exact Nat.le_refl _
  have := h (full V N)
  rw [full_len] at this
  exact this
theorem tx_len {l : List Int} (hd : Dig 18446744073709551616 l) (hn : Nrm l) (hl : l.length ≤ 3) : (tx l).length ≤ 101 := by
  unfold tx
  split
  · simp
  · have h1 := room_fits hd (by omega) hn hl
    have := txt_len (val 18446744073709551616 l) (room (bitL l))
    omega

theorem ia_end {B : Nat} {l : List Int} {w w1 w2 : World} {v : Value} (hBw : B ≤ w.heap.size) (h1 : Below w.drew.heap.size w.drew w1) (h2 : AppB (tx l) B w1 v w2) : IaOut l B w (.returned v) w2 := by
  obtain ⟨ad, c, e1, e2, e3, e4, e5⟩ := h2
  exact ⟨v, rfl, ad, c, e1, e2, e3, ((below_of_drew h1).mono hBw).trans e4, e5⟩
set_option maxRecDepth 100000 in
set_option maxHeartbeats 4000000 in
theorem intApp (B D o t S : Nat) (cs : Array Value) (A : Option Addr) (c : Nat) (l : List Int) (hl : l.length ≤ 3) (hd : Dig 18446744073709551616 l) (hn : Nrm l) (w : World) (hr : ReadsInt w .u64 A l.length l)
    (hleaf : w.cell? ⟨1, 0, none⟩ = some (.int .i64 8)) (hlt : 1 < w.heap.size) (hD : w.heap[D]? = some (.cells cs t (0, 0))) (hx : isInt cs o false (.slice A l.length c)) (hS : Scr S w) (hB : B ≤ S) (hBw : B ≤ w.heap.size) :
    Calls Tryz.prog 35 #[.pointer (some ⟨D, o, none⟩), .slice (some ⟨S, 0, none⟩) 0 16, .int .i64 10] w fun e w' => IaOut l B w e w' := by
  obtain ⟨i0, hi, hz0, hz1, hz2⟩ := info_parts infoB
  have X0 : w.cell? ⟨D, o, none⟩ = some (.bool false) := (blk_cell hD o).trans hx.1
  have X1 : w.cell? ⟨D, o + 1, none⟩ = some (.slice A l.length c) := (blk_cell hD (o + 1)).trans hx.2
  have HIT := Lib.hid (itoa_c A c l hl hd hn w.drew (hr.below (below_drew (Below.refl _ _))) hleaf hlt)
  have HTL := Lib.hid (tx_len hd hn hl)
  have HSC := Lib.hid hS
  have HB := Lib.hid hB
  have HBW := Lib.hid hBw
  obtain ⟨n, hnn⟩ : ∃ n, n = l.length := ⟨_, rfl⟩
  rw [← hnn] at HIT X1
  clear hr hleaf hlt hD hx hS hB hBw hd hn hl hnn
  go_enter Tryz.func35, Tryz.ntmps35
  go_wp2_with fail
  go_region_law (first
    | (refine step_append_scr rfl (.tmp 11) (.tmp 21) 22 rfl 5 i0 Tryz.underlying22 hi hz0 hz1 hz2 B S 16 (by simp [Act.eval]) HB.out (by have := HB1.out.size; have h2 := HBW.out; exact Nat.le_trans h2 this) ad1 c1 (tx l) (by have := HTL.out; omega) (by simp [Act.eval]) HR1.out (scr_spare (by obtain ⟨cs', t', h1, h2⟩ := HSC.out; exact ⟨cs', t', blk_below (w := w.drew) h1 HB1.out, h2⟩)) ?_; intro v' w2 happ; have HAPP := Lib.hid happ; obtain ⟨ad2, c2, rfl, -⟩ := happ)
    | (go_simp; go_wp2_with (go_at_call 46; refine HIT.out.mono ?_; rintro e w1 ⟨ad1, c1, rfl, hc1, hr1, hb1⟩; have HR1 := Lib.hid hr1; have HB1 := Lib.hid hb1; clear hc1 hr1 hb1 HIT)))
  all_goals go_wp2_with fail
  all_goals go_ret
  all_goals exact ia_end HBW.out HB1.out HAPP.out
set_option maxRecDepth 100000 in
theorem bigApp (B D o t S : Nat) (cs : Array Value) (A : Option Addr) (c : Nat) (l : List Int) (hl : l.length ≤ 3) (hd : Dig 18446744073709551616 l) (hn : Nrm l) (w : World) (hr : ReadsInt w .u64 A l.length l)
    (hleaf : w.cell? ⟨1, 0, none⟩ = some (.int .i64 8)) (hlt : 1 < w.heap.size) (hD : w.heap[D]? = some (.cells cs t (0, 0))) (hx : isInt cs o false (.slice A l.length c)) (hS : Scr S w) (hB : B ≤ S) (hBw : B ≤ w.heap.size) :
    Calls Tryz.prog 21 #[.pointer (some ⟨D, o, none⟩), .slice (some ⟨S, 0, none⟩) 0 16, .int .i64 10] w fun e w' => IaOut l B w e w' := by
  have H := Lib.hid (intApp B D o t S cs A c l hl hd hn w hr hleaf hlt hD hx hS hB hBw)
  clear hr hleaf hlt hD hx hS hB hBw hd hn hl
  go_enter Tryz.func21, Tryz.ntmps21
  go_wp2_with fail
  refine H.out.mono ?_
  rintro e w' ⟨v, rfl, hv⟩
  have HV := Lib.hid hv
  obtain ⟨ad2, c2, rfl, -⟩ := hv
  go_wp2_with fail
  go_ret
  exact ⟨_, rfl, HV.out⟩
end Go.Proofs.YtdfcomilhjoooaaGreatDoor.Div
