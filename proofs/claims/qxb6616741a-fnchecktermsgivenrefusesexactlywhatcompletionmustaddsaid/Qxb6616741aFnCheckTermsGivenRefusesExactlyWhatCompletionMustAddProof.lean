/- THE STATEMENT Rows.FnCheckTermsGivenRefusesExactlyWhatCompletionMustAddSaid, out of the law's walk. -/
import Derived.Test.Qxb6616741aLb
import Derived.Test.Qxb6616741aSc
import Derived.Test.Qxb6616741aOp
import Derived.ProofKit
import Derived.OpenShut
import Derived.ChangeOld
import Derived.Below
namespace Go.Proofs.Qxb6616741a.fnCheckTermsGivenRefusesExactlyWhatCompletionMustAdd
open Go.ChangeShapes Go.WideShapes Go.ChangeAt Go.RowKit
set_option linter.unusedVariables false

theorem own : ownKnob Try.prog.godebug = none := by kernel_rfl
theorem laidOut : laidOutB Try.prog = true := by kernel_rfl

set_option maxRecDepth 100000 in
theorem lifted (os : Os) (started : os.Started) (H : Type) (enc : TypeId × Value → H) :
    ReturnsInHanded {} Try.checked os 4 .any (Rows.fnCheckTermsGivenRefusesExactlyWhatCompletionMustAddSpec.pre6 enc Try.prog Try.f4 Rows.fnCheckTermsGivenRefusesExactlyWhatCompletionMustAddRow.domain false) (Rows.fnCheckTermsGivenRefusesExactlyWhatCompletionMustAddSpec.post enc Try.prog Try.f4 false true false false) := by
  refine returnsInHanded_of_change (C := Try.checked) own started (by kernel_rfl) Try.func4
    (ChangeSpec.witness6 (enc := enc) (C := Try.checked) false ⟨#[], #[.pointer none, .pointer none, .pointer none, .pointer none, .pointer none, .pointer none], []⟩ 8 (by kernel_rfl) (by kernel_rfl) (by kernel_rfl) (by kernel_rfl)) ?_
  intro W base args ds gs before hval0 hW hcnd _
  have hval : ∀ (j : Nat) t v, Try.f4.params[j]? = some t → args[j]? = some v → Value.okWide Try.prog W .any base t v := hval0
  have hW' := hW
  obtain ⟨p, q, hA0, hV, rfl, hfz, hnd⟩ := hW
  have hA : DataW.TrodAll enc Try.prog W 0 (fun _ => true) true Try.f4.params.toList args.toList ds p := hA0
  rw [Try.params4] at hA hval
  obtain ⟨v0, vs0, d0, ds0, p0, q0, hargs, rfl, rfl, h0, r0⟩ := trodAll_cons hA
  obtain ⟨v1, vs1, d1, ds1, p1, q1, rfl, rfl, rfl, h1, r1⟩ := trodAll_cons r0
  obtain ⟨v2, vs2, d2, ds2, p2, q2, rfl, rfl, rfl, h2, r2⟩ := trodAll_cons r1
  obtain ⟨v3, vs3, d3, ds3, p3, q3, rfl, rfl, rfl, h3, r3⟩ := trodAll_cons r2
  obtain ⟨v4, vs4, d4, ds4, p4, q4, rfl, rfl, rfl, h4, r4⟩ := trodAll_cons r3
  obtain ⟨v5, vs5, d5, ds5, p5, q5, rfl, rfl, rfl, h5, r5⟩ := trodAll_cons r4
  obtain ⟨rfl, rfl, rfl⟩ := trodAll_nil r5
  obtain rfl : args = #[v0, v1, v2, v3, v4, v5] := by cases args; simp_all
  obtain ⟨rfl, rfl⟩ := trodVars_none hV
  obtain ⟨a0, rfl⟩ := okWide_pointer Try.underlying22 (hval 0 22 v0 rfl rfl)
  have k0 := h0
  have lt0 : ∀ x ∈ p0, x.block < W.heap.size := by obtain ⟨m, hm⟩ := k0; exact DataW.trod_lt m _ _ _ hm
  have m0 : StrP W a0 := by
    obtain ⟨fuel, hf⟩ := h0
    obtain ⟨p', e', hp'⟩ := rd_strP hf
    simp [Value.cells] at e'
    subst e'
    exact hp'
  obtain ⟨a1, rfl⟩ := okWide_pointer Try.underlying22 (hval 1 22 v1 rfl rfl)
  have k1 := h1
  have lt1 : ∀ x ∈ p1, x.block < W.heap.size := by obtain ⟨m, hm⟩ := k1; exact DataW.trod_lt m _ _ _ hm
  have m1 : StrP W a1 := by
    obtain ⟨fuel, hf⟩ := h1
    obtain ⟨p', e', hp'⟩ := rd_strP hf
    simp [Value.cells] at e'
    subst e'
    exact hp'
  obtain ⟨a2, rfl⟩ := okWide_pointer Try.underlying22 (hval 2 22 v2 rfl rfl)
  have k2 := h2
  have lt2 : ∀ x ∈ p2, x.block < W.heap.size := by obtain ⟨m, hm⟩ := k2; exact DataW.trod_lt m _ _ _ hm
  have m2 : StrP W a2 := by
    obtain ⟨fuel, hf⟩ := h2
    obtain ⟨p', e', hp'⟩ := rd_strP hf
    simp [Value.cells] at e'
    subst e'
    exact hp'
  obtain ⟨a3, rfl⟩ := okWide_pointer Try.underlying23 (hval 3 23 v3 rfl rfl)
  have k3 := h3
  have lt3 : ∀ x ∈ p3, x.block < W.heap.size := by obtain ⟨m, hm⟩ := k3; exact DataW.trod_lt m _ _ _ hm
  obtain ⟨a4, rfl⟩ := okWide_pointer Try.underlying24 (hval 4 24 v4 rfl rfl)
  have k4 := h4
  have lt4 : ∀ x ∈ p4, x.block < W.heap.size := by obtain ⟨m, hm⟩ := k4; exact DataW.trod_lt m _ _ _ hm
  have m4 : FloorP W a4 := by
    obtain ⟨fuel, hf⟩ := h4
    obtain ⟨p', e', hp'⟩ := rd_floor hf
    simp [Value.cells] at e'
    subst e'
    exact hp'
  obtain ⟨a5, rfl⟩ := okWide_pointer Try.underlying25 (hval 5 25 v5 rfl rfl)
  have k5 := h5
  have lt5 : ∀ x ∈ p5, x.block < W.heap.size := by obtain ⟨m, hm⟩ := k5; exact DataW.trod_lt m _ _ _ hm
  have m5 : LimitsP W a5 := by
    obtain ⟨fuel, hf⟩ := h5
    obtain ⟨p', e', hp'⟩ := rd_limits hf
    simp [Value.cells] at e'
    subst e'
    exact hp'
  clear hA0 hval0
  refine (law2_any bytes8_any a0 a1 a2 a3 a4 a5 W m0 m1 m2 m4 m5).mono fun e W' ⟨he, bel⟩ => ?_
  subst he
  exact ⟨_, rfl, _, _, _, [], _, [], hW', trodAll_mk1 (shut_bool Try.underlying4 _), (trodAll_cons_mk (Below.trod laidOut (by kernel_rfl) (of_decide_eq_true (by kernel_rfl)) k0 bel lt0) (trodAll_cons_mk (Below.trod laidOut (by kernel_rfl) (of_decide_eq_true (by kernel_rfl)) k1 bel lt1) (trodAll_cons_mk (Below.trod laidOut (by kernel_rfl) (of_decide_eq_true (by kernel_rfl)) k2 bel lt2) (trodAll_cons_mk (Below.trod laidOut (by kernel_rfl) (of_decide_eq_true (by kernel_rfl)) k3 bel lt3) (trodAll_cons_mk (Below.trod laidOut (by kernel_rfl) (of_decide_eq_true (by kernel_rfl)) k4 bel lt4) (trodAll_cons_mk (Below.trod laidOut (by kernel_rfl) (of_decide_eq_true (by kernel_rfl)) k5 bel lt5) trodAll_mk0)))))), rfl, bel.frame _, fun h => by cases h⟩

theorem over : Rows.fnCheckTermsGivenRefusesExactlyWhatCompletionMustAddRow.holds Try.pinned (OpenSpec.ofChange Rows.fnCheckTermsGivenRefusesExactlyWhatCompletionMustAddSpec) :=
  OpenClaim.holds_of_wide 4 Try.f4 rfl rfl rfl rfl rfl rfl rfl ⟨rfl, rfl, rfl, rfl, rfl⟩ rfl rfl rfl rfl rfl (by kernel_rfl) Try.func4 (by kernel_rfl)
    (of_decide_eq_true (by kernel_rfl)) (by unfold Func.isWrapper; first | (rw [if_pos (by decide +kernel)]; kernel_rfl) | (rw [if_neg (by decide +kernel)]; exact ⟨rfl, rfl⟩))
    (fun os started H enc _ => lifted os started H enc)
end Go.Proofs.Qxb6616741a.fnCheckTermsGivenRefusesExactlyWhatCompletionMustAdd
namespace Go.Proofs.Qxb6616741a
theorem fnCheckTermsGivenRefusesExactlyWhatCompletionMustAdd_proved : Rows.FnCheckTermsGivenRefusesExactlyWhatCompletionMustAddSaid := fnCheckTermsGivenRefusesExactlyWhatCompletionMustAdd.over
end Go.Proofs.Qxb6616741a
