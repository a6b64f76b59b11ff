/-
  The law's walk and its row, in the frame that the guide's skeleton gives.
-/
import Derived.Test.Qxb6616681aWb
import Derived.WalkKit
import Derived.ProofKit
import Derived.OpenShut
import Derived.ShutString
namespace Go.Proofs.Qxb6616681a.fnAtNumberUnmovedByWhatFollows
open Go.ChangeShapes Go.WideShapes Go.ChangeAt Go.RowKit
open Go.ChangeMaps (open_string shut_string)
set_option linter.unusedVariables false      -- a walk need not use every 'w<i>' (that an integer argument fits its kind)

theorem own : ownKnob Try.prog.godebug = none := by kernel_rfl

theorem bytes2_any (s t : ByteArray) (k col : Int) (w : World) (hs : s.size + t.size ≤ 1048576) :
    Calls Try.prog 9 #[.string s, .string t, .int .i64 k, .int .i64 col] w fun e w' => e = .returned (.bool true) ∧ w' = w := by
  have h : ¬ (1048576 : Int) < (s.size : Int) := by omega
  have h' : ¬ (1048576 : Int) < (t.size : Int) := by omega
  have h'' : ¬ (1048576 : Int) < (s.size : Int) + (t.size : Int) := by omega
  go_enter Try.func9, Try.ntmps9
  go_wp2
  go_ret
  exact ⟨rfl, rfl⟩

/-! ### STEP 1: THE WALK: the Go text returns true. 'Grown w w'': the world has at most new blocks (Derived/RowKit3.lean). Part the cases AHEAD of 'go_enter' where a test parts the walk; take each callee by a contract of your own. -/
theorem walk (a0 : ByteArray) (a1 : ByteArray) (a2 : Int) (a3 : Int) (w0 : a0.size ≤ maxLen) (w1 : a1.size ≤ maxLen) (w2 : (Lit.int .i64 a2).wf = true) (w3 : (Lit.int .i64 a3).wf = true) (w : World) :
    Calls Try.prog 4 #[.string a0, .string a1, .int .i64 a2, .int .i64 a3] w fun e w' => e = .returned (.bool true) ∧ Grown w w' := by
  by_cases h0 : (1048576 : Int) < (a0.size : Int)
  · go_enter Try.func4, Try.ntmps4
    go_wp2
    go_ret
    exact ⟨rfl, Grown.refl _⟩
  by_cases h1 : (1048576 : Int) < (a1.size : Int)
  · go_enter Try.func4, Try.ntmps4
    go_wp2
    go_ret
    exact ⟨rfl, Grown.refl _⟩
  by_cases h2 : (1048576 : Int) < (a0.size : Int) + (a1.size : Int)
  · go_enter Try.func4, Try.ntmps4
    go_wp2
    go_ret
    exact ⟨rfl, Grown.refl _⟩
  have h2' : ¬ (1048576 : Int) - (a0.size : Int) < (a1.size : Int) := by omega
  by_cases h3 : a2 < 0
  · go_enter Try.func4, Try.ntmps4
    go_wp2
    go_ret
    exact ⟨rfl, Grown.refl _⟩
  by_cases h4 : (a0.size : Int) < a2
  · go_enter Try.func4, Try.ntmps4
    go_wp2
    go_ret
    exact ⟨rfl, Grown.refl _⟩
  obtain ⟨o, rfl⟩ := Int.eq_ofNat_of_zero_le (by omega : 0 ≤ a2)
  have hs : a0.size ≤ 1048576 := by omega
  have ho : o ≤ a0.size := by omega
  go_enter Try.func4, Try.ntmps4
  go_wp2_with fail
  refine (bytes2_any a0 a1 _ a3 _ (by omega)).mono ?_
  rintro e w1 ⟨rfl, rfl⟩
  go_wp2_with fail
  generalize hj : a0 ++ a1 = j at *
  have hjs : j.size ≤ 1048576 := by rw [← hj, ByteArray.size_append]; omega
  have hjo : o ≤ j.size := by rw [← hj, ByteArray.size_append]; omega
  have hup : Hid (atNum a0 o = true → atNum j o = true) := by rw [← hj]; exact atNum_append a0 a1 o
  have heq : Hid (o + 2 ≤ a0.size → atNum j o = atNum a0 o) := by rw [← hj]; exact atNum_append_eq a0 a1 o
  clear hj
  refine (new_any a0 _ a3 _).mono ?_
  rintro e w2 ⟨rfl, hw2⟩
  have c0 : w2.cell? ⟨w1.heap.size, 0, none⟩ = some (.string a0) := by rw [hw2]; simp [go_sem]
  have c1 : w2.cell? ⟨w1.heap.size, 1, none⟩ = some (.int .i64 (o : Int)) := by rw [hw2]; simp [go_sem]
  have g2 : Hid (Grown w1 w2) := by rw [hw2]; exact (Grown.refl _).alloc _ _
  clear hw2
  go_wp2_with fail
  refine (zzAt_any a0 o _ _ hs ho c0 c1).mono ?_
  rintro e w3 ⟨rfl, n, hw3⟩
  have g3 : Hid (Grown w1 w3) := by rw [hw3]; exact g2.out
  clear hw3
  go_wp2_with fail
  refine (new_any j _ a3 _).mono ?_
  rintro e w4 ⟨rfl, hw4⟩
  have c2 : w4.cell? ⟨w3.heap.size, 0, none⟩ = some (.string j) := by rw [hw4]; simp [go_sem]
  have c3 : w4.cell? ⟨w3.heap.size, 1, none⟩ = some (.int .i64 (o : Int)) := by rw [hw4]; simp [go_sem]
  have g4 : Hid (Grown w1 w4) := by rw [hw4]; exact g3.out.alloc _ _
  clear hw4
  go_wp2_with fail
  refine (zzAt_any j o _ _ hjs hjo c2 c3).mono ?_
  rintro e w5 ⟨rfl, n5, hw5⟩
  have g5 : Hid (Grown w1 w5) := by rw [hw5]; exact g4.out
  clear hw5
  have hn := nsa_any j o w5 hjs hjo
  revert hup heq hn
  generalize atNum a0 o = da
  generalize atNum j o = db
  intro hup heq hn0
  have hn := hide hn0
  clear hn0
  by_cases h5 : o + 2 ≤ a0.size
  · have h5' : (o : Int) + 2 ≤ (a0.size : Int) := by omega
    obtain rfl := heq.out h5
    clear hup heq
    cases db
    · go_wp2_with fail
      refine hn.out.mono ?_
      rintro e w6 ⟨rfl, rfl⟩
      go_wp2
      go_ret
      exact ⟨rfl, g5.out⟩
    · go_wp2_with fail
      refine hn.out.mono ?_
      rintro e w6 ⟨rfl, rfl⟩
      go_wp2
      go_ret
      exact ⟨rfl, g5.out⟩
  · have h5' : ¬ (o : Int) + 2 ≤ (a0.size : Int) := by omega
    cases da
    · cases db
      · go_wp2_with fail
        refine hn.out.mono ?_
        rintro e w6 ⟨rfl, rfl⟩
        go_wp2
        go_ret
        exact ⟨rfl, g5.out⟩
      · go_wp2_with fail
        refine hn.out.mono ?_
        rintro e w6 ⟨rfl, rfl⟩
        go_wp2
        go_ret
        exact ⟨rfl, g5.out⟩
    · obtain rfl := hup.out rfl
      go_wp2_with fail
      refine hn.out.mono ?_
      rintro e w6 ⟨rfl, rfl⟩
      go_wp2
      go_ret
      exact ⟨rfl, g5.out⟩

/-! ### THE ROW's STEP: WRITTEN OUT: LEAVE IT -/
set_option maxRecDepth 100000 in
theorem lifted (os : Os) (started : os.Started) (H : Type) (enc : TypeId × Value → H) :
    ReturnsInHanded {} Try.checked os 4 .any (Rows.fnAtNumberUnmovedByWhatFollowsSpec.pre6 enc Try.prog Try.f4 Rows.fnAtNumberUnmovedByWhatFollowsRow.domain false) (Rows.fnAtNumberUnmovedByWhatFollowsSpec.post enc Try.prog Try.f4 false true false false) := by
  refine returnsInHanded_of_change (C := Try.checked) own started (by kernel_rfl) Try.func4
    (ChangeSpec.witness6 (enc := enc) (C := Try.checked) false ⟨#[], #[.string ByteArray.empty, .string ByteArray.empty, .int .i64 0, .int .i64 0], []⟩ 8 (by kernel_rfl) (by kernel_rfl) (by kernel_rfl) (by kernel_rfl)) ?_
  intro W base args ds gs before hval0 hW hcnd _
  have hval : ∀ (j : Nat) t v, Try.f4.params[j]? = some t → args[j]? = some v → Value.okWide Try.prog W .any base t v := hval0
  have hW' := hW
  obtain ⟨p, q, hA0, hV, rfl, hfz, hnd⟩ := hW
  have hA : DataW.TrodAll enc Try.prog W 0 (fun _ => true) true Try.f4.params.toList args.toList ds p := hA0
  rw [Try.params4] at hA hval
  obtain ⟨v0, vs0, d0, ds0, p0, q0, hargs, rfl, rfl, h0, r0⟩ := trodAll_cons hA
  obtain ⟨v1, vs1, d1, ds1, p1, q1, rfl, rfl, rfl, h1, r1⟩ := trodAll_cons r0
  obtain ⟨v2, vs2, d2, ds2, p2, q2, rfl, rfl, rfl, h2, r2⟩ := trodAll_cons r1
  obtain ⟨v3, vs3, d3, ds3, p3, q3, rfl, rfl, rfl, h3, r3⟩ := trodAll_cons r2
  obtain ⟨rfl, rfl, rfl⟩ := trodAll_nil r3
  obtain rfl : args = #[v0, v1, v2, v3] := by cases args; simp_all
  obtain ⟨rfl, rfl⟩ := trodVars_none hV
  obtain ⟨a0, rfl, rfl, rfl, w0⟩ := open_string Try.underlying9 (hval 0 9 v0 rfl rfl) h0
  obtain ⟨a1, rfl, rfl, rfl, w1⟩ := open_string Try.underlying9 (hval 1 9 v1 rfl rfl) h1
  obtain ⟨a2, rfl, rfl, rfl, w2⟩ := open_int Try.underlying3 (hval 2 3 v2 rfl rfl) h2
  obtain ⟨a3, rfl, rfl, rfl, w3⟩ := open_int Try.underlying3 (hval 3 3 v3 rfl rfl) h3
  clear hA0 hval0
  simp only [List.append_nil] at hW'
  refine (walk a0 a1 a2 a3 w0 w1 w2 w3 W).mono fun e W' ⟨he, hg⟩ => ?_
  subst he
  exact ⟨_, rfl, post_of_same (pa := []) (pv := []) hW' (fun _ _ _ => (trodAll_cons_mk (shut_bool Try.underlying4 _) trodAll_mk0)) (fun sp _ => (trodAll_cons_mk (shut_string Try.underlying9 w0) (trodAll_cons_mk (shut_string Try.underlying9 w1) (trodAll_cons_mk (shut_int Try.underlying3 w2) (trodAll_cons_mk (shut_int Try.underlying3 w3) trodAll_mk0))))) (fun _ _ => rfl) rfl
    (hg.frame _) hg.2.1 (ok_one (by kernel_rfl) rfl (okWide_bool_mk Try.underlying4 _))⟩

theorem over : Rows.fnAtNumberUnmovedByWhatFollowsRow.holds Try.pinned (OpenSpec.ofChange Rows.fnAtNumberUnmovedByWhatFollowsSpec) :=
  OpenClaim.holds_of_wide 4 Try.f4 rfl rfl rfl rfl rfl rfl rfl ⟨rfl, rfl, rfl, rfl, rfl⟩ rfl rfl rfl rfl rfl (by kernel_rfl) Try.func4 (by kernel_rfl)
    (of_decide_eq_true (by kernel_rfl)) (by unfold Func.isWrapper; first | (rw [if_pos (by decide +kernel)]; kernel_rfl) | (rw [if_neg (by decide +kernel)]; exact ⟨rfl, rfl⟩))
    (fun os started H enc _ => lifted os started H enc)

/-- ████ THE STATEMENT ████ -/
theorem proved : Rows.FnAtNumberUnmovedByWhatFollowsSaid :=
  over
end Go.Proofs.Qxb6616681a.fnAtNumberUnmovedByWhatFollows
namespace Go.Proofs.Qxb6616681a
theorem fnAtNumberUnmovedByWhatFollows_proved : Rows.FnAtNumberUnmovedByWhatFollowsSaid := fnAtNumberUnmovedByWhatFollows.proved
end Go.Proofs.Qxb6616681a
