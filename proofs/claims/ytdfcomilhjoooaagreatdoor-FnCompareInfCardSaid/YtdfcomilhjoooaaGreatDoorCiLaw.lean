/- FnCompareInf answers true at every input: the row and its card. -/
import Derived.Test.YtdfcomilhjoooaaGreatDoorCards
import Derived.Test.YtdfcomilhjoooaaGreatDoorTie
import Derived.Test.YtdfcomilhjoooaaGreatDoorCiWalk
import Derived.WalkKit
import Derived.ProofKit
import Derived.OpenShut
import Derived.OpenVars
import Derived.Carry
import Derived.Lib.SmallJoins
import Derived.Deep.DeepHandedRow
import Derived.Lib.LaidTab
namespace Go.Proofs.YtdfcomilhjoooaaGreatDoor.fnCompareInf
open Go.ChangeShapes Go.WideShapes Go.ChangeAt Go.RowKit Go.Joins Go.Deep Go.Proofs.YtdfcomilhjoooaaGreatDoorW.PrintWords Go.Proofs.YtdfcomilhjoooaaGreatDoor.Base
set_option linter.unusedVariables false

theorem own : ownKnob Tryz.prog.godebug = none := by kernel_rfl
theorem laidOut : laidOutB Tryz.prog = true := by kernel_rfl
theorem cellsDec : Tryz.prog.cellsOf 25 = 4 := by kernel_rfl
theorem cellsUint : Tryz.prog.cellsOf 44 = 1 := by kernel_rfl

set_option maxRecDepth 100000 in
/-- a Dec that came in -/
theorem open_dec {H : Type} {enc : TypeId × Value → H} {W : World} {base : Nat} {v : Value} {d : DataW H} {p : List MemPlace} (hv : Value.okWide Tryz.prog W .any base 25 v) (h : DataW.Trod enc Tryz.prog W 0 (fun _ => true) true 25 v d p) :
    ∃ (f : Int) (neg : Bool) (A : Option Addr) (c : Nat) (l : List Int) (e : Int), v = .agg #[.int .i64 f, .bool neg, .slice A l.length c, .int .i64 e] ∧ l.length ≤ c ∧ ReadsInt W .u64 A l.length l := by
  obtain ⟨v0, v1, v2, v3, y0, y1, y2, y3, n, rfl, rfl, rfl, h0, h1, h2, h3⟩ := open_agg4 Tryz.underlying25 (by kernel_rfl) cellsDec hv h
  obtain ⟨f, e0, -, -⟩ := DataW.trod_int Tryz.underlying3 h0
  obtain ⟨neg, e1, -⟩ := DataW.trod_bool Tryz.underlying4 h1
  obtain ⟨e, e3, -, -⟩ := DataW.trod_int Tryz.underlying3 h3
  simp only [List.cons.injEq, and_true] at e0 e1 e3
  subst e0 e1 e3
  rcases open_ints Tryz.underlying23 Tryz.underlying44 cellsUint h2 with ⟨e2, -⟩ | ⟨a, len, cap, zs, e2, -, hlc, hcm, hzl, -, hcell, -⟩
  · simp only [List.cons.injEq, and_true] at e2
    subst e2
    exact ⟨f, neg, none, 0, [], e, rfl, Nat.le_refl _, rfl, by decide, fun h => absurd h (by decide)⟩
  · simp only [List.cons.injEq, and_true] at e2
    subst e2
    have hzl' : zs.length = cap := hzl
    have hl : (zs.take len).length = len := by rw [List.length_take]; omega
    refine ⟨f, neg, some a, cap, zs.take len, e, by rw [hl], by omega, rfl, ?_, fun _ => ⟨a, rfl, fun j hj => ?_⟩⟩
    · rw [hl]; exact Nat.le_trans hlc (Nat.le_trans hcm (by decide))
    · rw [hl] at hj
      have : (zs.take len).getD j 0 = zs.getD j 0 := by simp only [List.getD_eq_getElem?_getD, List.getElem?_take]; rw [if_pos hj]
      rw [this]
      exact hcell j (by omega)

set_option maxRecDepth 100000 in
theorem contract (H : Type) (enc : TypeId × Value → H) (W : World) (base : Nat) (args : Array Value) (ds gs : List (DataW H)) (before : List MemPlace)
    (hval : ∀ (j : Nat) t v, Tryz.f4.params[j]? = some t → args[j]? = some v → Value.okWide Tryz.prog W .any base t v)
    (hW : DataW.Whole enc Tryz.prog Tryz.f4.params.toList Rows.fnCompareInfSpec.vars false W args.toList ds gs before) :
    Calls Tryz.prog 4 args W fun e W' => ∃ v, e = .returned v ∧ Rows.fnCompareInfSpec.post enc Tryz.prog Tryz.f4 false true false false W args v W' := by
  have hW' := hW
  obtain ⟨p, q, hA0, hV, rfl, hfz, hnd⟩ := hW
  have hA : DataW.TrodAll enc Tryz.prog W 0 (fun _ => true) true Tryz.f4.params.toList args.toList ds p := hA0
  rw [Tryz.params4] at hA hval
  obtain ⟨v0, vs0, d0, ds0, p0, q0, hargs, rfl, rfl, h0, r0⟩ := trodAll_cons hA
  obtain ⟨v1, vs1, d1, ds1, p1, q1, rfl, rfl, rfl, h1, r1⟩ := trodAll_cons r0
  obtain ⟨v2, vs2, d2, ds2, p2, q2, rfl, rfl, rfl, h2, r2⟩ := trodAll_cons r1
  obtain ⟨rfl, rfl, rfl⟩ := trodAll_nil r2
  obtain rfl : args = #[v0, v1, v2] := by cases args; simp_all
  have h0' := h0
  have h1' := h1
  have h2' := h2
  have hlt := hW'.lt
  obtain ⟨one, rfl, -, -⟩ := open_bool Tryz.underlying4 (hval 1 4 v1 rfl rfl) h1
  obtain ⟨two, rfl, -, -⟩ := open_bool Tryz.underlying4 (hval 2 4 v2 rfl rfl) h2
  obtain ⟨f, neg, A, c, l, e, rfl, hc, hr⟩ := open_dec (hval 0 25 v0 rfl rfl) h0
  refine (ci_all f neg A c l e hc one two W hr).mono fun x W' ⟨hx, bel⟩ => ?_
  subst hx
  have hvars := Below.trodVars laidOut bel (by kernel_rfl) hV
  have t0 := Below.trod laidOut (by kernel_rfl) (of_decide_eq_true (by kernel_rfl)) h0' bel (fun x hx => hlt x (by simp [hx]))
  have t1 := Below.trod laidOut (by kernel_rfl) (of_decide_eq_true (by kernel_rfl)) h1' bel (fun x hx => hlt x (by simp [hx]))
  have t2 := Below.trod laidOut (by kernel_rfl) (of_decide_eq_true (by kernel_rfl)) h2' bel (fun x hx => hlt x (by simp [hx]))
  match gs, hV with
  | [g1, g2, g3, g4, g5], _ => 
    exact ⟨_, rfl, _, _, _, [], _, _, hW', trodAll_mk1 (shut_bool Tryz.underlying4 _), trodAll_cons_mk t0 (trodAll_cons_mk t1 (trodAll_cons_mk t2 trodAll_mk0)), hvars, bel.frame _, fun h => by cases h⟩
/-- A WORLD FOR THE WITNESS: the settled one, the listed variables holding what their initialisers lay. -/
def put1 (cs : Array Value) : Obj → Obj
  | .cells _ t frozen => .cells cs t frozen
  | o => o
noncomputable def laidWorld (os : Os) : World :=
  { World.holding Tryz.prog os ⟨#[], #[], []⟩ with heap := (((((((World.holding Tryz.prog os ⟨#[], #[], []⟩).heap.modify 5 (put1 #[.int .u8 0, .int .u8 1, .int .u8 28, .int .u8 2, .int .u8 29, .int .u8 14, .int .u8 24, .int .u8 3, .int .u8 30, .int .u8 22, .int .u8 20, .int .u8 15, .int .u8 25, .int .u8 17, .int .u8 4, .int .u8 8, .int .u8 31, .int .u8 27, .int .u8 13, .int .u8 23, .int .u8 21, .int .u8 19, .int .u8 16, .int .u8 7, .int .u8 26, .int .u8 12, .int .u8 18, .int .u8 6, .int .u8 11, .int .u8 5, .int .u8 10, .int .u8 9])).modify 6 (put1 #[.int .u8 0, .int .u8 1, .int .u8 56, .int .u8 2, .int .u8 57, .int .u8 49, .int .u8 28, .int .u8 3, .int .u8 61, .int .u8 58, .int .u8 42, .int .u8 50, .int .u8 38, .int .u8 29, .int .u8 17, .int .u8 4, .int .u8 62, .int .u8 47, .int .u8 59, .int .u8 36, .int .u8 45, .int .u8 43, .int .u8 51, .int .u8 22, .int .u8 53, .int .u8 39, .int .u8 33, .int .u8 30, .int .u8 24, .int .u8 18, .int .u8 12, .int .u8 5, .int .u8 63, .int .u8 55, .int .u8 48, .int .u8 27, .int .u8 60, .int .u8 41, .int .u8 37, .int .u8 16, .int .u8 46, .int .u8 35, .int .u8 44, .int .u8 21, .int .u8 52, .int .u8 32, .int .u8 23, .int .u8 11, .int .u8 54, .int .u8 26, .int .u8 40, .int .u8 15, .int .u8 34, .int .u8 20, .int .u8 31, .int .u8 10, .int .u8 25, .int .u8 14, .int .u8 19, .int .u8 9, .int .u8 13, .int .u8 8, .int .u8 7, .int .u8 6])).modify 1 (put1 #[.int .i64 8])).modify
      8 (put1 #[.int .i64 40])).modify 4 (put1 #[.int .i64 40])).modify 2 (put1 #[.int .i64 12])).modify 3 (put1 #[.int .i64 80]) }
def wArgs : Array Value := #[.agg #[.int .i64 0, .bool false, .slice none 0 0, .int .i64 0], .bool false, .bool false]
theorem laid_met (os : Os) : laidMet Tryz.prog Rows.fnCompareInfRow.laid ((laidWorld os).forCall (fun _ _ => 0) ⟨#[], wArgs, []⟩).memory :=
  laidMet_of_run' 8 (by kernel_rfl) (by kernel_rfl)
theorem reads (os : Os) {H : Type} (enc : TypeId × Value → H) : ∃ x, DataW.whole enc Tryz.prog ((laidWorld os).forCall (fun _ _ => 0) ⟨#[], wArgs, []⟩).memory Tryz.f4.params.toList Rows.fnCompareInfSpec.vars false wArgs.toList 8 = some x :=
  Option.isSome_iff_exists.mp (by kernel_rfl)

set_option maxRecDepth 100000 in
theorem lifted (os : Os) (started : os.Started) (H : Type) (enc : TypeId × Value → H) (F : Stop.Interp) :
    ReturnsInHanded {} Tryz.checked os 4 .any ((OpenSpec.ofChange Rows.fnCompareInfSpec).preRow enc Tryz.prog Tryz.f4 Rows.fnCompareInfRow.domain false Rows.fnCompareInfRow.laid) (((OpenSpec.ofChange Rows.fnCompareInfSpec).at F).post enc Tryz.prog Tryz.f4 false true false false) := by
  obtain ⟨x, hx⟩ := reads os enc
  refine returnsInHanded_of_row (C := Tryz.checked) (s := OpenSpec.ofChange Rows.fnCompareInfSpec) own started (by kernel_rfl) Tryz.func4
    (witness_row_at (enc := enc) (C := Tryz.checked) false (laidWorld os) wArgs rfl (by kernel_rfl) (by kernel_rfl) (by kernel_rfl)
      (OpenSpec.preRow_of_cond 8 hx (by rfl) (fun k hk => by cases hk) (by kernel_rfl) (laid_met os))) ?_
  intro W base args ds gs before hval hW _ _ _ hL _ _
  exact contract H enc W base args ds gs before hval hW

theorem said : Rows.FnCompareInfSaid :=
  OpenClaim.holds_of_cond 4 Tryz.f4 rfl rfl rfl rfl rfl rfl rfl ⟨rfl, rfl, rfl, rfl, rfl⟩ rfl rfl rfl rfl rfl (by kernel_rfl) Tryz.func4 (by kernel_rfl)
    (of_decide_eq_true (by kernel_rfl)) (by unfold Func.isWrapper; first | (rw [if_pos (by decide +kernel)]; kernel_rfl) | (rw [if_neg (by decide +kernel)]; exact ⟨rfl, rfl⟩))
    (fun os started H enc _ F => by rw [OpenClaim.pre_eq_preRow]; exact lifted os started H enc F)

theorem plain (f : FuncId) (fn : Func) (hf : Tryz.pinned.checked.prog.funcNamed "loop.example/pub-g03255/laws.FnCompareInf" = some f) (hfn : Tryz.pinned.checked.prog.funcs[f]? = some fn) :
    false = Tryz.pinned.checked.prog.looks [] ∧ ∀ (j : Nat) t, fn.params[j]? = some t → Tryz.pinned.checked.prog.wantsStandIn t = false := by
  obtain rfl : f = 4 := Option.some.inj ((show Tryz.prog.funcNamed "loop.example/pub-g03255/laws.FnCompareInf" = some 4 by kernel_rfl).symm.trans hf) |>.symm
  obtain rfl : fn = Tryz.f4 := (Option.some.inj (Tryz.func4.symm.trans hfn)).symm
  refine ⟨by kernel_rfl, fun j t ht => ?_⟩
  rw [Tryz.params4] at ht
  have ht' : t = 25 ∨ t = 4 := by simpa using Array.mem_of_getElem? ht
  rcases ht' with rfl | rfl
  · exact (show Tryz.prog.wantsStandIn 25 = false by kernel_rfl)
  · exact (show Tryz.prog.wantsStandIn 4 = false by kernel_rfl)

theorem card : Rows.FnCompareInfCardSaid :=
  Claim7.holds_tied_plain_at .later [] _ _ _ _ said (fun _ h => by cases h) (by kernel_rfl) (fun _ h => by cases h) fnCompareInf_row_tie rfl ⟨rfl, rfl⟩ (by kernel_rfl) rfl plain (by kernel_rfl)
end Go.Proofs.YtdfcomilhjoooaaGreatDoor.fnCompareInf
namespace Go.Proofs.YtdfcomilhjoooaaGreatDoor
/-- The row's card, under a short name, for the claim. -/
theorem fnCompareInf_holds : Rows.FnCompareInfCardSaid := fnCompareInf.card
end Go.Proofs.YtdfcomilhjoooaaGreatDoor
