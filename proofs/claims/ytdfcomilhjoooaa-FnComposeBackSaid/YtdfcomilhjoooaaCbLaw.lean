/- FnComposeBack answers true at every input: the row. No condition. -/
import Derived.Test.YtdfcomilhjoooaaRows
import Derived.Test.YtdfcomilhjoooaaCbWalk0
import Derived.Test.YtdfcomilhjoooaaCbWalk1
import Derived.Test.YtdfcomilhjoooaaCbWalk2
import Derived.WalkKit
import Derived.ProofKit
import Derived.OpenShut
import Derived.ShutString
import Derived.ChangeOld
import Derived.Below
import Derived.SizedLaws
import Derived.Carry
import Derived.Lib.SmallJoins
namespace Go.Proofs.Ytdfcomilhjoooaa.fnComposeBack
open Go.ChangeShapes Go.WideShapes Go.ChangeAt Go.RowKit Go.Joins Go.Proofs.YtdfcomilhjoooaaW.PrintWords Go.Proofs.Ytdfcomilhjoooaa.Base Go.Proofs.Ytdfcomilhjoooaa.Num
set_option linter.unusedVariables false
theorem own : ownKnob Try.prog.godebug = none := by kernel_rfl
theorem laidOut : laidOutB Try.prog = true := by kernel_rfl
theorem cellsDec : Try.prog.cellsOf 31 = 4 := by kernel_rfl
theorem cellsUint : Try.prog.cellsOf 49 = 1 := by kernel_rfl

set_option maxRecDepth 100000 in
/-- a Dec that came in -/
theorem open_dec {H : Type} {enc : TypeId × Value → H} {W : World} {base : Nat} {v : Value} {d : DataW H} {p : List MemPlace} (hv : Value.okWide Try.prog W .any base 31 v) (h : DataW.Trod enc Try.prog W 0 (fun _ => true) true 31 v d p) :
    ∃ (f : Int) (neg : Bool) (A : Option Addr) (c : Nat) (l : List Int) (e : Int), v = .agg #[.int .i64 f, .bool neg, .slice A l.length c, .int .i64 e] ∧ l.length ≤ c ∧ ReadsInt W .u64 A l.length l ∧ Dig (2 ^ 64) l := by
  obtain ⟨v0, v1, v2, v3, y0, y1, y2, y3, n, rfl, rfl, rfl, h0, h1, h2, h3⟩ := open_agg4 Try.underlying31 (by kernel_rfl) cellsDec hv h
  obtain ⟨f, e0, -, -⟩ := DataW.trod_int Try.underlying3 h0
  obtain ⟨neg, e1, -⟩ := DataW.trod_bool Try.underlying4 h1
  obtain ⟨e, e3, -, -⟩ := DataW.trod_int Try.underlying3 h3
  simp only [List.cons.injEq, and_true] at e0 e1 e3
  subst e0 e1 e3
  rcases open_ints Try.underlying29 Try.underlying49 cellsUint h2 with ⟨e2, -⟩ | ⟨a, len, cap, zs, e2, -, hlc, hcm, hzl, -, hcell, hwf⟩
  · simp only [List.cons.injEq, and_true] at e2
    subst e2
    exact ⟨f, neg, none, 0, [], e, rfl, Nat.le_refl _, ⟨rfl, by decide, fun h => absurd h (by decide)⟩, fun _ h => (by cases h)⟩
  · simp only [List.cons.injEq, and_true] at e2
    subst e2
    have hzl' : zs.length = cap := hzl
    have hl : (zs.take len).length = len := by rw [List.length_take]; omega
    refine ⟨f, neg, some a, cap, zs.take len, e, by rw [hl], by omega, ⟨rfl, ?_, fun _ => ⟨a, rfl, fun j hj => ?_⟩⟩, fun x hx => ?_⟩
    · rw [hl]; exact Nat.le_trans hlc (Nat.le_trans hcm (by decide))
    · rw [hl] at hj
      have : (zs.take len).getD j 0 = zs.getD j 0 := by simp only [List.getD_eq_getElem?_getD, List.getElem?_take]; rw [if_pos hj]
      rw [this]
      exact hcell j (by omega)
    · have := hwf x (List.mem_of_mem_take hx)
      have h2 : 0 ≤ x ∧ x ≤ 18446744073709551615 := by simpa [Lit.wf, IntKind.min, IntKind.max, IntKind.signed, IntKind.bits] using this
      omega
set_option maxRecDepth 100000 in
theorem lifted (os : Os) (started : os.Started) (H : Type) (enc : TypeId × Value → H) :
    ReturnsInHanded {} Try.checked os 4 .any (Rows.fnComposeBackSpec.pre6 enc Try.prog Try.f4 Rows.fnComposeBackRow.domain false) (Rows.fnComposeBackSpec.post enc Try.prog Try.f4 false true false false) := by
  refine returnsInHanded_of_change_sized (C := Try.checked) own started (by kernel_rfl) Try.func4
    (ChangeSpec.witness6 (enc := enc) (C := Try.checked) false ⟨#[], #[.int .u8 0, .bool false, .agg #[.int .i64 0, .bool false, .slice none 0 0, .int .i64 0]], []⟩ 8 (by kernel_rfl) (by kernel_rfl) (by kernel_rfl) (by kernel_rfl)) ?_
  intro W base args ds gs before hval0 hW hcnd hsz0 _
  have hval : ∀ (j : Nat) t v, Try.f4.params[j]? = some t → args[j]? = some v → Value.okWide Try.prog W .any base t v := hval0
  have hW' := hW
  obtain ⟨p, q, hA0, hV, rfl, hfz, hnd⟩ := hW
  have hA : DataW.TrodAll enc Try.prog W 0 (fun _ => true) true Try.f4.params.toList args.toList ds p := hA0
  rw [Try.params4] at hA hval
  obtain ⟨v0, vs0, d0, ds0, p0, q0, hargs, rfl, rfl, h0, r0⟩ := trodAll_cons hA
  obtain ⟨v1, vs1, d1, ds1, p1, q1, rfl, rfl, rfl, h1, r1⟩ := trodAll_cons r0
  obtain ⟨v2, vs2, d2, ds2, p2, q2, rfl, rfl, rfl, h2, r2⟩ := trodAll_cons r1
  obtain ⟨rfl, rfl, rfl⟩ := trodAll_nil r2
  obtain rfl : args = #[v0, v1, v2] := by cases args; simp_all
  obtain ⟨rfl, rfl⟩ := trodVars_none hV
  have h0' := h0
  have h1' := h1
  have h2' := h2
  have hlt := hW'.lt
  obtain ⟨a0, rfl, -, -, w0⟩ := open_int Try.underlying5 (hval 0 5 v0 rfl rfl) h0
  obtain ⟨neg, rfl, -, -⟩ := open_bool Try.underlying4 (hval 1 4 v1 rfl rfl) h1
  obtain ⟨f, ng, A, c, l, e, rfl, hc, hr, hd⟩ := open_dec (hval 2 31 v2 rfl rfl) h2
  have hx0 : 0 ≤ a0 ∧ a0 ≤ 255 := by simpa [Lit.wf, IntKind.min, IntKind.max, IntKind.signed, IntKind.bits] using w0
  obtain ⟨q, rfl⟩ := Int.eq_ofNat_of_zero_le hx0.1
  clear hA0 hval0 hsz0
  have key : Calls Try.prog 4 #[.int .u8 q, .bool neg, .agg #[.int .i64 f, .bool ng, .slice A l.length c, .int .i64 e]] W fun x w' => Byt.CbOut W x w' := by
    have hq : q ≤ 255 := by omega
    rcases (by omega : q % 3 = 0 ∨ q % 3 = 1 ∨ q % 3 = 2) with h | h | h
    · exact Byt.cb_walk0 q hq neg f ng A c l e hc hd W hr h
    · exact Byt.cb_walk1 q hq neg f ng A c l e hc hd W hr h
    · exact Byt.cb_walk2 q hq neg f ng A c l e hc hd W hr h
  refine key.mono fun x W' ⟨he, bel⟩ => ?_
  subst he
  have t0 := Below.trod laidOut (by kernel_rfl) (of_decide_eq_true (by kernel_rfl)) h0' bel (fun x hx => hlt x (by simp [hx]))
  have t1 := Below.trod laidOut (by kernel_rfl) (of_decide_eq_true (by kernel_rfl)) h1' bel (fun x hx => hlt x (by simp [hx]))
  have t2 := Below.trod laidOut (by kernel_rfl) (of_decide_eq_true (by kernel_rfl)) h2' bel (fun x hx => hlt x (by simp [hx]))
  exact ⟨_, rfl, _, _, _, [], _, [], hW', trodAll_mk1 (shut_bool Try.underlying4 _), (trodAll_cons_mk t0 (trodAll_cons_mk t1 (trodAll_cons_mk t2 trodAll_mk0))), rfl, bel.frame _, fun h => by cases h⟩
theorem over : Rows.fnComposeBackRow.holds Try.pinned (OpenSpec.ofChange Rows.fnComposeBackSpec) :=
  OpenClaim.holds_of_wide 4 Try.f4 rfl rfl rfl rfl rfl rfl rfl ⟨rfl, rfl, rfl, rfl, rfl⟩ rfl rfl rfl rfl rfl (by kernel_rfl) Try.func4 (by kernel_rfl)
    (of_decide_eq_true (by kernel_rfl)) (by unfold Func.isWrapper; first | (rw [if_pos (by decide +kernel)]; kernel_rfl) | (rw [if_neg (by decide +kernel)]; exact ⟨rfl, rfl⟩))
    (fun os started H enc _ => lifted os started H enc)
theorem proved : Rows.FnComposeBackSaid := over
end Go.Proofs.Ytdfcomilhjoooaa.fnComposeBack
namespace Go.Proofs.Ytdfcomilhjoooaa
/-- The row, under a short name, for the claim. -/
theorem fnComposeBack_holds : Rows.FnComposeBackSaid := fnComposeBack.proved
end Go.Proofs.Ytdfcomilhjoooaa
