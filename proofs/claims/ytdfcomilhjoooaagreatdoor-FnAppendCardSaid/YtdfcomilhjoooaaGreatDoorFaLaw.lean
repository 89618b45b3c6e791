/- FnAppend answers true at every input: the row and its card. -/
import Derived.Test.YtdfcomilhjoooaaGreatDoorCards
import Derived.Test.YtdfcomilhjoooaaGreatDoorTie
import Derived.Test.YtdfcomilhjoooaaGreatDoorFaWalk
import Derived.Test.YtdfcomilhjoooaaGreatDoorFaText
import Derived.WalkKit
import Derived.ProofKit
import Derived.OpenShut
import Derived.OpenVars
import Derived.Carry
import Derived.Lib.SmallJoins
import Derived.Deep.DeepHandedRow
import Derived.Lib.LaidTab
import Derived.Stop.LaidErr
namespace Go.Proofs.YtdfcomilhjoooaaGreatDoor.fnAppend
open Go.ChangeShapes Go.WideShapes Go.ChangeAt Go.RowKit Go.Joins Go.Deep Go.Proofs.YtdfcomilhjoooaaGreatDoorW.PrintWords Go.Proofs.YtdfcomilhjoooaaGreatDoor.Base Go.Proofs.YtdfcomilhjoooaaGreatDoor.Num Go.Proofs.YtdfcomilhjoooaaGreatDoor.Div
set_option linter.unusedVariables false

theorem own : ownKnob Tryz.prog.godebug = none := by kernel_rfl
theorem laidOut : laidOutB Tryz.prog = true := by kernel_rfl
theorem cellsDec : Tryz.prog.cellsOf 25 = 4 := by kernel_rfl
theorem cellsUint : Tryz.prog.cellsOf 44 = 1 := by kernel_rfl

set_option maxRecDepth 100000 in
/-- a Dec that came in -/
theorem open_dec {H : Type} {enc : TypeId × Value → H} {W : World} {base : Nat} {v : Value} {d : DataW H} {p : List MemPlace} (hv : Value.okWide Tryz.prog W .any base 25 v) (h : DataW.Trod enc Tryz.prog W 0 (fun _ => true) true 25 v d p) :
    ∃ (f : Int) (neg : Bool) (A : Option Addr) (c : Nat) (l : List Int) (e : Int), v = .agg #[.int .i64 f, .bool neg, .slice A l.length c, .int .i64 e] ∧ l.length ≤ c ∧ ReadsInt W .u64 A l.length l ∧ Dig (2 ^ 64) l := by
  obtain ⟨v0, v1, v2, v3, y0, y1, y2, y3, n, rfl, rfl, rfl, h0, h1, h2, h3⟩ := open_agg4 Tryz.underlying25 (by kernel_rfl) cellsDec hv h
  obtain ⟨f, e0, -, -⟩ := DataW.trod_int Tryz.underlying3 h0
  obtain ⟨neg, e1, -⟩ := DataW.trod_bool Tryz.underlying4 h1
  obtain ⟨e, e3, -, -⟩ := DataW.trod_int Tryz.underlying3 h3
  simp only [List.cons.injEq, and_true] at e0 e1 e3
  subst e0 e1 e3
  rcases open_ints Tryz.underlying23 Tryz.underlying44 cellsUint h2 with ⟨e2, -⟩ | ⟨a, len, cap, zs, e2, -, hlc, hcm, hzl, -, hcell, hwf⟩
  · simp only [List.cons.injEq, and_true] at e2
    subst e2
    exact ⟨f, neg, none, 0, [], e, rfl, Nat.le_refl _, ⟨rfl, by decide, fun h => absurd h (by decide)⟩, fun _ h => (by cases h)⟩
  · simp only [List.cons.injEq, and_true] at e2
    subst e2
    have hzl' : zs.length = cap := hzl
    have hl : (zs.take len).length = len := by rw [List.length_take]; omega
    refine ⟨f, neg, some a, cap, zs.take len, e, by rw [hl], by omega, ⟨rfl, ?_, fun _ => ⟨a, rfl, fun j hj => ?_⟩⟩, fun x hx => ?_⟩
    · rw [hl]; exact Nat.le_trans hlc (Nat.le_trans hcm (by decide))
    · rw [hl] at hj
      have : (zs.take len).getD j 0 = zs.getD j 0 := by simp only [List.getD_eq_getElem?_getD, List.getElem?_take]; rw [if_pos hj]
      rw [this]
      exact hcell j (by omega)
    · have := hwf x (List.mem_of_mem_take hx)
      have h2 : 0 ≤ x ∧ x ≤ 18446744073709551615 := by simpa [Lit.wf, IntKind.min, IntKind.max, IntKind.signed, IntKind.bits] using this
      omega
theorem cellsByte : Tryz.prog.cellsOf 5 = 1 := by kernel_rfl
set_option maxRecDepth 100000 in
theorem open_bytes {H : Type} {enc : TypeId × Value → H} {W : World} {base : Nat} {v : Value} {d : DataW H} {p : List MemPlace} (hv : Value.okWide Tryz.prog W .any base 22 v) (h : DataW.Trod enc Tryz.prog W 0 (fun _ => true) true 22 v d p) :
    ∃ (A : Option Addr) (c : Nat) (l : List Int), v = .slice A l.length c ∧ l.length ≤ c ∧ ReadsInt W .u8 A l.length l ∧ Dig 256 l := by
  obtain ⟨a0, n0, c0, rfl⟩ := okWide_slice Tryz.underlying22 hv
  obtain ⟨fuel, h⟩ := h
  rcases open_ints Tryz.underlying22 Tryz.underlying5 cellsByte h with ⟨e2, -⟩ | ⟨a, len, cap, zs, e2, -, hlc, hcm, hzl, -, hcell, hwf⟩
  · simp [Value.cells] at e2
    obtain ⟨rfl, rfl, rfl⟩ := e2
    exact ⟨none, 0, [], rfl, Nat.le_refl _, ⟨rfl, by decide, fun h => absurd h (by decide)⟩, fun _ h => by cases h⟩
  · simp [Value.cells] at e2
    obtain ⟨rfl, rfl, rfl⟩ := e2
    have hzl' : zs.length = c0 := hzl
    have hl : (zs.take n0).length = n0 := by rw [List.length_take]; omega
    refine ⟨some a, c0, zs.take n0, by rw [hl], by omega, ⟨rfl, ?_, fun _ => ⟨a, rfl, fun j hj => ?_⟩⟩, fun x hx => ?_⟩
    · rw [hl]; exact Nat.le_trans hlc (Nat.le_trans hcm (by decide))
    · rw [hl] at hj
      have : (zs.take n0).getD j 0 = zs.getD j 0 := by simp only [List.getD_eq_getElem?_getD, List.getElem?_take]; rw [if_pos hj]
      rw [this]
      exact hcell j (by omega)
    · have := hwf x (List.mem_of_mem_take hx)
      have h2 : 0 ≤ x ∧ x ≤ 255 := by simpa [Lit.wf, IntKind.min, IntKind.max, IntKind.signed, IntKind.bits] using this
      omega

/-- an integer variable that is listed first -/
theorem int_of_head {P : Program} {W : World} {name : String} {k : IntKind} {z : Int} {rest : List (String × DataW Unit)} {g : Nat} {t : TypeId} (hg : P.globalNamed name = some g) (hty : (P.globals[g]?).map (·.type) = some t) (ht : P.underlying t = some (.int k)) (h : laidMet P ((name, .lit (.int k z)) :: rest) W) :
    W.cell? ⟨g, 0, none⟩ = some (.int k z) := by
  obtain ⟨ps, ⟨g', t', cs, fuel, p, q, hg', ht', hvar, hd, _, _⟩, _⟩ := h
  obtain rfl := Option.some.inj (hg.symm.trans hg')
  obtain rfl := Option.some.inj (hty.symm.trans ht')
  obtain ⟨n, e1, e2, _⟩ := DataW.trod_int ht hd
  injection e2 with e2 _
  injection e2 with e2
  injection e2 with _ e2
  subst e2
  rw [World.var?_cell hg hvar 0, ← Array.getElem?_toList, e1]
  rfl
theorem fa_all (f : Int) (neg : Bool) (A : Option Addr) (c : Nat) (l : List Int) (e : Int) (hc : l.length ≤ c) (hd : Dig (2 ^ 64) l) (B0 : Option Addr) (cb : Nat) (b : List Int) (q : Nat) (hq : q ≤ 255) (w : World) (hr : ReadsInt w .u64 A l.length l) (hrb : ReadsInt w .u8 B0 b.length b)
    (hleaf : w.cell? ⟨1, 0, none⟩ = some (.int .i64 8)) (htab : Lib.TabIs Tryz.prog w "internal/strconv.uint64pow10" .u64 Lib.pow10Tab) :
    Calls Tryz.prog 3 #[.slice B0 b.length cb, .agg #[.int .i64 f, .bool neg, .slice A l.length c, .int .i64 e], .int .u8 q] w fun x w' => FaOut w x w' := by
  obtain ⟨F, hF⟩ : ∃ F : Int, (q % 5 = 0 ∧ F = 101) ∨ (q % 5 = 1 ∧ F = 69) ∨ (q % 5 = 2 ∧ F = 102) ∨ (q % 5 = 3 ∧ F = 103) ∨ (q % 5 = 4 ∧ F = 71) := by
    rcases (by omega : q % 5 = 0 ∨ q % 5 = 1 ∨ q % 5 = 2 ∨ q % 5 = 3 ∨ q % 5 = 4) with h | h | h | h | h
    · exact ⟨101, .inl ⟨h, rfl⟩⟩
    · exact ⟨69, .inr (.inl ⟨h, rfl⟩)⟩
    · exact ⟨102, .inr (.inr (.inl ⟨h, rfl⟩))⟩
    · exact ⟨103, .inr (.inr (.inr (.inl ⟨h, rfl⟩)))⟩
    · exact ⟨71, .inr (.inr (.inr (.inr ⟨h, rfl⟩)))⟩
  have hf5 : F = 101 ∨ F = 69 ∨ F = 102 ∨ F = 103 ∨ F = 71 := by omega
  refine fa_walk f neg A c l e hc B0 b.length cb q hq F hF (strOfNums b) (strOfNums (fA F neg e l)) w hr fun h0 hnl h3 he0 he1 hm => ?_
  have hd' : Dig 18446744073709551616 l := hd
  have hD : DecIn e A l w := ⟨he0, he1, hd', nrm_of_nlTo hnl, h3, hr, hleaf, htab⟩
  refine ⟨fun u hb => conv_any (hrb.below hb), fun u hb => ?_, fun u hb => ?_, fun u ad hb h => ?_, ?_⟩
  · refine (iapp_c B0 cb b hm (hrb.below hb) F hf5 (hD.below hb)).mono ?_
    rintro x w' ⟨v', rfl, k1, k2⟩
    rw [str_app]
    exact ⟨v', rfl, k1, k2⟩
  · exact itext_c F hf5 (hD.below hb)
  · have hT : DecIn 0 (some ad) [3] u := ⟨by decide, by decide, (fun x hx => by simp only [List.mem_singleton] at hx; subst hx; decide), (by unfold Nrm; decide), by decide, h, leaf_on hleaf hb, tab_on htab hb⟩
    have h3 := itext_c (neg := false) (c := 1) 102 (by simp) hT
    rw [fA_three] at h3
    exact h3
  · rw [str_len, str_len]
    have := fA_le (f := F) (neg := neg) he0 he1 hd' (nrm_of_nlTo hnl) h3
    omega

set_option maxRecDepth 100000 in
theorem contract (H : Type) (enc : TypeId × Value → H) (W : World) (base : Nat) (args : Array Value) (ds gs : List (DataW H)) (before : List MemPlace)
    (hval : ∀ (j : Nat) t v, Tryz.f3.params[j]? = some t → args[j]? = some v → Value.okWide Tryz.prog W .any base t v)
    (hW : DataW.Whole enc Tryz.prog Tryz.f3.params.toList Rows.fnAppendSpec.vars false W args.toList ds gs before)
    (hleaf : W.cell? ⟨1, 0, none⟩ = some (.int .i64 8)) (htab : Lib.TabIs Tryz.prog W "internal/strconv.uint64pow10" .u64 Lib.pow10Tab) :
    Calls Tryz.prog 3 args W fun e W' => ∃ v, e = .returned v ∧ Rows.fnAppendSpec.post enc Tryz.prog Tryz.f3 false true false false W args v W' := by
  have hW' := hW
  obtain ⟨p, q, hA0, hV, rfl, hfz, hnd⟩ := hW
  have hA : DataW.TrodAll enc Tryz.prog W 0 (fun _ => true) true Tryz.f3.params.toList args.toList ds p := hA0
  rw [Tryz.params3] at hA hval
  obtain ⟨v0, vs0, d0, ds0, p0, q0, hargs, rfl, rfl, h0, r0⟩ := trodAll_cons hA
  obtain ⟨v1, vs1, d1, ds1, p1, q1, rfl, rfl, rfl, h1, r1⟩ := trodAll_cons r0
  obtain ⟨v2, vs2, d2, ds2, p2, q2, rfl, rfl, rfl, h2, r2⟩ := trodAll_cons r1
  obtain ⟨rfl, rfl, rfl⟩ := trodAll_nil r2
  obtain rfl : args = #[v0, v1, v2] := by cases args; simp_all
  have h0' := h0
  have h1' := h1
  have h2' := h2
  have hlt := hW'.lt
  obtain ⟨B0, cb, b, rfl, hbc, hrb, hdb⟩ := open_bytes (hval 0 22 v0 rfl rfl) h0
  obtain ⟨f, neg, A, c, l, e, rfl, hc, hr, hd⟩ := open_dec (hval 1 25 v1 rfl rfl) h1
  obtain ⟨a2, rfl, -, -, w2⟩ := open_int Tryz.underlying5 (hval 2 5 v2 rfl rfl) h2
  have hx2 : 0 ≤ a2 ∧ a2 ≤ 255 := by simpa [Lit.wf, IntKind.min, IntKind.max, IntKind.signed, IntKind.bits] using w2
  obtain ⟨q, rfl⟩ := Int.eq_ofNat_of_zero_le hx2.1
  refine (fa_all f neg A c l e hc hd B0 cb b q (by omega) W hr hrb hleaf htab).mono fun x W' ⟨hx, bel⟩ => ?_
  subst hx
  have hvars := Below.trodVars laidOut bel (by kernel_rfl) hV
  have t0 := Below.trod laidOut (by kernel_rfl) (of_decide_eq_true (by kernel_rfl)) h0' bel (fun x hx => hlt x (by simp [hx]))
  have t1 := Below.trod laidOut (by kernel_rfl) (of_decide_eq_true (by kernel_rfl)) h1' bel (fun x hx => hlt x (by simp [hx]))
  have t2 := Below.trod laidOut (by kernel_rfl) (of_decide_eq_true (by kernel_rfl)) h2' bel (fun x hx => hlt x (by simp [hx]))
  match gs, hV with
  | [g1, g2, g3, g4, g5], _ => 
    exact ⟨_, rfl, _, _, _, [], _, _, hW', trodAll_mk1 (shut_bool Tryz.underlying4 _), trodAll_cons_mk t0 (trodAll_cons_mk t1 (trodAll_cons_mk t2 trodAll_mk0)), hvars, bel.frame _, fun h => by cases h⟩
/-- A WORLD FOR THE WITNESS: the settled one, the listed variables holding what their initialisers lay. -/
def put1 (cs : Array Value) : Obj → Obj
  | .cells _ t frozen => .cells cs t frozen
  | o => o
noncomputable def laidWorld (os : Os) : World :=
  { World.holding Tryz.prog os ⟨#[], #[], []⟩ with heap := ((((((((World.holding Tryz.prog os ⟨#[], #[], []⟩).heap.modify 5 (put1 #[.int .u8 0, .int .u8 1, .int .u8 28, .int .u8 2, .int .u8 29, .int .u8 14, .int .u8 24, .int .u8 3, .int .u8 30, .int .u8 22, .int .u8 20, .int .u8 15, .int .u8 25, .int .u8 17, .int .u8 4, .int .u8 8, .int .u8 31, .int .u8 27, .int .u8 13, .int .u8 23, .int .u8 21, .int .u8 19, .int .u8 16, .int .u8 7, .int .u8 26, .int .u8 12, .int .u8 18, .int .u8 6, .int .u8 11, .int .u8 5, .int .u8 10, .int .u8 9])).modify 6 (put1 #[.int .u8 0, .int .u8 1, .int .u8 56, .int .u8 2, .int .u8 57, .int .u8 49, .int .u8 28, .int .u8 3, .int .u8 61, .int .u8 58, .int .u8 42, .int .u8 50, .int .u8 38, .int .u8 29, .int .u8 17, .int .u8 4, .int .u8 62, .int .u8 47, .int .u8 59, .int .u8 36, .int .u8 45, .int .u8 43, .int .u8 51, .int .u8 22, .int .u8 53, .int .u8 39, .int .u8 33, .int .u8 30, .int .u8 24, .int .u8 18, .int .u8 12, .int .u8 5, .int .u8 63, .int .u8 55, .int .u8 48, .int .u8 27, .int .u8 60, .int .u8 41, .int .u8 37, .int .u8 16, .int .u8 46, .int .u8 35, .int .u8 44, .int .u8 21, .int .u8 52, .int .u8 32, .int .u8 23, .int .u8 11, .int .u8 54, .int .u8 26, .int .u8 40, .int .u8 15, .int .u8 34, .int .u8 20, .int .u8 31, .int .u8 10, .int .u8 25, .int .u8 14, .int .u8 19, .int .u8 9, .int .u8 13, .int .u8 8, .int .u8 7, .int .u8 6])).modify 7 (put1 #[.int .u64 1, .int .u64 10, .int .u64 100, .int .u64 1000, .int .u64 10000, .int .u64 100000, .int .u64 1000000, .int .u64 10000000, .int .u64 100000000, .int .u64 1000000000, .int .u64 10000000000, .int .u64 100000000000, .int .u64 1000000000000, .int .u64 10000000000000, .int .u64 100000000000000, .int .u64 1000000000000000, .int .u64 10000000000000000, .int .u64 100000000000000000, .int .u64 1000000000000000000, .int .u64 10000000000000000000])).modify 1 (put1 #[.int .i64 8])).modify
      8 (put1 #[.int .i64 40])).modify 4 (put1 #[.int .i64 40])).modify 2 (put1 #[.int .i64 12])).modify 3 (put1 #[.int .i64 80]) }
def wArgs : Array Value := #[.slice none 0 0, .agg #[.int .i64 0, .bool false, .slice none 0 0, .int .i64 0], .int .u8 0]
theorem laid_met (os : Os) : laidMet Tryz.prog Rows.fnAppendRow.laid ((laidWorld os).forCall (fun _ _ => 0) ⟨#[], wArgs, []⟩).memory :=
  laidMet_of_run' 8 (by kernel_rfl) (by kernel_rfl)
theorem reads (os : Os) {H : Type} (enc : TypeId × Value → H) : ∃ x, DataW.whole enc Tryz.prog ((laidWorld os).forCall (fun _ _ => 0) ⟨#[], wArgs, []⟩).memory Tryz.f3.params.toList Rows.fnAppendSpec.vars false wArgs.toList 8 = some x :=
  Option.isSome_iff_exists.mp (by kernel_rfl)

set_option maxRecDepth 100000 in
theorem lifted (os : Os) (started : os.Started) (H : Type) (enc : TypeId × Value → H) (F : Stop.Interp) :
    ReturnsInHanded {} Tryz.checked os 3 .any ((OpenSpec.ofChange Rows.fnAppendSpec).preRow enc Tryz.prog Tryz.f3 Rows.fnAppendRow.domain false Rows.fnAppendRow.laid) (((OpenSpec.ofChange Rows.fnAppendSpec).at F).post enc Tryz.prog Tryz.f3 false true false false) := by
  obtain ⟨x, hx⟩ := reads os enc
  refine returnsInHanded_of_row (C := Tryz.checked) (s := OpenSpec.ofChange Rows.fnAppendSpec) own started (by kernel_rfl) Tryz.func3
    (witness_row_at (enc := enc) (C := Tryz.checked) false (laidWorld os) wArgs rfl (by kernel_rfl) (by kernel_rfl) (by kernel_rfl)
      (OpenSpec.preRow_of_cond 8 hx (by rfl) (fun k hk => by cases hk) (by kernel_rfl) (laid_met os))) ?_
  intro W base args ds gs before hval hW _ _ _ hL _ _
  have e1 : Rows.laid_internal_strconv_uint64pow10 = (Lib.tabData .u64 Lib.pow10Tab : DataW Unit) := by kernel_rfl
  have hT : laidMet Tryz.prog (("internal/strconv.uint64pow10", Lib.tabData .u64 Lib.pow10Tab) :: Rows.fnAppendRow.laid.drop 3) W := by rw [← e1]; exact hL.tail.tail
  have htab : Lib.TabIs Tryz.prog W "internal/strconv.uint64pow10" .u64 Lib.pow10Tab := Lib.tabIs_of_head (g := 7) (by kernel_rfl) (by kernel_rfl) Tryz.underlying154 Tryz.underlying104 (by kernel_rfl) (by kernel_rfl) hT
  exact contract H enc W base args ds gs before hval hW (int_of_head (by kernel_rfl) (by kernel_rfl) Tryz.underlying3 hT.tail) htab

theorem said : Rows.FnAppendSaid :=
  OpenClaim.holds_of_cond 3 Tryz.f3 rfl rfl rfl rfl rfl rfl rfl ⟨rfl, rfl, rfl, rfl, rfl⟩ rfl rfl rfl rfl rfl (by kernel_rfl) Tryz.func3 (by kernel_rfl)
    (of_decide_eq_true (by kernel_rfl)) (by unfold Func.isWrapper; first | (rw [if_pos (by decide +kernel)]; kernel_rfl) | (rw [if_neg (by decide +kernel)]; exact ⟨rfl, rfl⟩))
    (fun os started H enc _ F => by rw [OpenClaim.pre_eq_preRow]; exact lifted os started H enc F)

theorem plain (f : FuncId) (fn : Func) (hf : Tryz.pinned.checked.prog.funcNamed "loop.example/pub-g03255/laws.FnAppend" = some f) (hfn : Tryz.pinned.checked.prog.funcs[f]? = some fn) :
    false = Tryz.pinned.checked.prog.looks [] ∧ ∀ (j : Nat) t, fn.params[j]? = some t → Tryz.pinned.checked.prog.wantsStandIn t = false := by
  obtain rfl : f = 3 := Option.some.inj ((show Tryz.prog.funcNamed "loop.example/pub-g03255/laws.FnAppend" = some 3 by kernel_rfl).symm.trans hf) |>.symm
  obtain rfl : fn = Tryz.f3 := (Option.some.inj (Tryz.func3.symm.trans hfn)).symm
  refine ⟨by kernel_rfl, fun j t ht => ?_⟩
  rw [Tryz.params3] at ht
  have ht' : t = 22 ∨ t = 25 ∨ t = 5 := by simpa using Array.mem_of_getElem? ht
  rcases ht' with rfl | rfl | rfl
  · exact (show Tryz.prog.wantsStandIn 22 = false by kernel_rfl)
  · exact (show Tryz.prog.wantsStandIn 25 = false by kernel_rfl)
  · exact (show Tryz.prog.wantsStandIn 5 = false by kernel_rfl)

theorem card : Rows.FnAppendCardSaid :=
  Claim7.holds_tied_plain_at .later [] _ _ _ _ said (fun _ h => by cases h) (by kernel_rfl) (fun _ h => by cases h) fnAppend_row_tie rfl ⟨rfl, rfl⟩ (by kernel_rfl) rfl plain (by kernel_rfl)
end Go.Proofs.YtdfcomilhjoooaaGreatDoor.fnAppend
namespace Go.Proofs.YtdfcomilhjoooaaGreatDoor
/-- The row's card, under a short name, for the claim. -/
theorem fnAppend_holds : Rows.FnAppendCardSaid := fnAppend.card
end Go.Proofs.YtdfcomilhjoooaaGreatDoor
