/- FnCompose answers true at every input: the row. No condition. -/
import Derived.Test.YtdfcomilhjoooaaRows
import Derived.Test.YtdfcomilhjoooaaFcWalk
import Derived.WalkKit
import Derived.ProofKit
import Derived.OpenShut
import Derived.ShutString
import Derived.ChangeOld
import Derived.Below
import Derived.SizedLaws
import Derived.Carry
import Derived.Lib.SmallJoins
namespace Go.Proofs.Ytdfcomilhjoooaa.fnCompose
open Go.ChangeShapes Go.WideShapes Go.ChangeAt Go.RowKit Go.Joins Go.Proofs.YtdfcomilhjoooaaW.PrintWords Go.Proofs.Ytdfcomilhjoooaa.Base Go.Proofs.Ytdfcomilhjoooaa.Num
set_option linter.unusedVariables false
theorem own : ownKnob Try.prog.godebug = none := by kernel_rfl
theorem laidOut : laidOutB Try.prog = true := by kernel_rfl
theorem cellsByte : Try.prog.cellsOf 5 = 1 := by kernel_rfl
theorem open_bytes {H : Type} {enc : TypeId × Value → H} {W : World} {base : Nat} {v : Value} {d : DataW H} {p : List MemPlace} (hv : Value.okWide Try.prog W .any base 22 v) (h : DataW.Trod enc Try.prog W 0 (fun _ => true) true 22 v d p) :
    ∃ (A : Option Addr) (c : Nat) (l : List Int), v = .slice A l.length c ∧ l.length ≤ c ∧ ReadsInt W .u8 A l.length l ∧ Dig 256 l := by
  obtain ⟨a0, n0, c0, rfl⟩ := okWide_slice Try.underlying22 hv
  obtain ⟨fuel, h⟩ := h
  rcases open_ints Try.underlying22 Try.underlying5 cellsByte h with ⟨e2, -⟩ | ⟨a, len, cap, zs, e2, -, hlc, hcm, hzl, -, hcell, hwf⟩
  · simp [Value.cells] at e2
    obtain ⟨rfl, rfl, rfl⟩ := e2
    exact ⟨none, 0, [], rfl, Nat.le_refl _, ⟨rfl, by decide, fun h => absurd h (by decide)⟩, fun _ h => by cases h⟩
  · simp [Value.cells] at e2
    obtain ⟨rfl, rfl, rfl⟩ := e2
    have hzl' : zs.length = c0 := hzl
    have hl : (zs.take n0).length = n0 := by rw [List.length_take]; omega
    refine ⟨some a, c0, zs.take n0, by rw [hl], by omega, ⟨rfl, ?_, fun _ => ⟨a, rfl, fun j hj => ?_⟩⟩, fun x hx => ?_⟩
    · rw [hl]; exact Nat.le_trans hlc (Nat.le_trans hcm (by decide))
    · rw [hl] at hj
      have : (zs.take n0).getD j 0 = zs.getD j 0 := by simp only [List.getD_eq_getElem?_getD, List.getElem?_take]; rw [if_pos hj]
      rw [this]
      exact hcell j (by omega)
    · have := hwf x (List.mem_of_mem_take hx)
      have h2 : 0 ≤ x ∧ x ≤ 255 := by simpa [Lit.wf, IntKind.min, IntKind.max, IntKind.signed, IntKind.bits] using this
      omega
set_option maxRecDepth 100000 in
theorem lifted (os : Os) (started : os.Started) (H : Type) (enc : TypeId × Value → H) :
    ReturnsInHanded {} Try.checked os 3 .any (Rows.fnComposeSpec.pre6 enc Try.prog Try.f3 Rows.fnComposeRow.domain false) (Rows.fnComposeSpec.post enc Try.prog Try.f3 false true false false) := by
  refine returnsInHanded_of_change_sized (C := Try.checked) own started (by kernel_rfl) Try.func3
    (ChangeSpec.witness6 (enc := enc) (C := Try.checked) false ⟨#[], #[.bool false, .slice none 0 0, .int .i16 0], []⟩ 8 (by kernel_rfl) (by kernel_rfl) (by kernel_rfl) (by kernel_rfl)) ?_
  intro W base args ds gs before hval0 hW hcnd hsz0 _
  have hval : ∀ (j : Nat) t v, Try.f3.params[j]? = some t → args[j]? = some v → Value.okWide Try.prog W .any base t v := hval0
  have hW' := hW
  obtain ⟨p, q, hA0, hV, rfl, hfz, hnd⟩ := hW
  have hA : DataW.TrodAll enc Try.prog W 0 (fun _ => true) true Try.f3.params.toList args.toList ds p := hA0
  rw [Try.params3] at hA hval
  obtain ⟨v0, vs0, d0, ds0, p0, q0, hargs, rfl, rfl, h0, r0⟩ := trodAll_cons hA
  obtain ⟨v1, vs1, d1, ds1, p1, q1, rfl, rfl, rfl, h1, r1⟩ := trodAll_cons r0
  obtain ⟨v2, vs2, d2, ds2, p2, q2, rfl, rfl, rfl, h2, r2⟩ := trodAll_cons r1
  obtain ⟨rfl, rfl, rfl⟩ := trodAll_nil r2
  obtain rfl : args = #[v0, v1, v2] := by cases args; simp_all
  obtain ⟨rfl, rfl⟩ := trodVars_none hV
  have h0' := h0
  have h1' := h1
  have h2' := h2
  have hlt := hW'.lt
  obtain ⟨neg, rfl, -, -⟩ := open_bool Try.underlying4 (hval 0 4 v0 rfl rfl) h0
  obtain ⟨A, c, b, rfl, hbc, hr, hd⟩ := open_bytes (hval 1 22 v1 rfl rfl) h1
  obtain ⟨ex, rfl, -, -, w2⟩ := open_int Try.underlying23 (hval 2 23 v2 rfl rfl) h2
  have hx2 : -32768 ≤ ex ∧ ex ≤ 32767 := by simpa [Lit.wf, IntKind.min, IntKind.max, IntKind.signed, IntKind.bits] using w2
  clear hA0 hval0 hsz0
  refine (Be.fc_walk neg A c b ex hx2.1 hx2.2 hbc hd W hr).mono fun e W' ⟨he, bel⟩ => ?_
  subst he
  have t0 := Below.trod laidOut (by kernel_rfl) (of_decide_eq_true (by kernel_rfl)) h0' bel (fun x hx => hlt x (by simp [hx]))
  have t1 := Below.trod laidOut (by kernel_rfl) (of_decide_eq_true (by kernel_rfl)) h1' bel (fun x hx => hlt x (by simp [hx]))
  have t2 := Below.trod laidOut (by kernel_rfl) (of_decide_eq_true (by kernel_rfl)) h2' bel (fun x hx => hlt x (by simp [hx]))
  exact ⟨_, rfl, _, _, _, [], _, [], hW', trodAll_mk1 (shut_bool Try.underlying4 _), (trodAll_cons_mk t0 (trodAll_cons_mk t1 (trodAll_cons_mk t2 trodAll_mk0))), rfl, bel.frame _, fun h => by cases h⟩
theorem over : Rows.fnComposeRow.holds Try.pinned (OpenSpec.ofChange Rows.fnComposeSpec) :=
  OpenClaim.holds_of_wide 3 Try.f3 rfl rfl rfl rfl rfl rfl rfl ⟨rfl, rfl, rfl, rfl, rfl⟩ rfl rfl rfl rfl rfl (by kernel_rfl) Try.func3 (by kernel_rfl)
    (of_decide_eq_true (by kernel_rfl)) (by unfold Func.isWrapper; first | (rw [if_pos (by decide +kernel)]; kernel_rfl) | (rw [if_neg (by decide +kernel)]; exact ⟨rfl, rfl⟩))
    (fun os started H enc _ => lifted os started H enc)
theorem proved : Rows.FnComposeSaid := over
end Go.Proofs.Ytdfcomilhjoooaa.fnCompose
namespace Go.Proofs.Ytdfcomilhjoooaa
/-- The row, under a short name, for the claim. -/
theorem fnCompose_holds : Rows.FnComposeSaid := fnCompose.proved
end Go.Proofs.Ytdfcomilhjoooaa
