/-
  The row of FnBackoffDelayMatchesSaturatedPower: the frame is the guide's template; the walk is ours.
-/
import Derived.Test.Qxb6602626aModsRows
import Derived.WalkKit
import Derived.ProofKit
import Derived.OpenShut
import Derived.ShutString
import Derived.Test.Qxb6602626aModsSpWalk
namespace Go.Proofs.Qxb6602626aMods.fnBackoffDelayMatchesSaturatedPower
open Go.ChangeShapes Go.WideShapes Go.ChangeAt Go.RowKit
open Go.ChangeMaps (open_string shut_string)
set_option linter.unusedVariables false      -- a walk need not use every 'w<i>' (that an integer argument fits its kind)

theorem own : ownKnob Trym.prog.godebug = none := by kernel_rfl

/-! ### STEP 1: THE WALK: the Go text returns true. 'Grown w w'': the world has at most new blocks (Derived/RowKit3.lean). Part the cases AHEAD of 'go_enter' where a test parts the walk; take each callee by a contract of your own. -/
set_option maxHeartbeats 1000000 in
theorem walk (a0 : Int) (a1 : Int) (a2 : Int) (a3 : Int) (w0 : (Lit.int .i32 a0).wf = true) (w1 : (Lit.int .i32 a1).wf = true) (w2 : (Lit.int .i32 a2).wf = true) (w3 : (Lit.int .i32 a3).wf = true) (w : World) :
    Calls Trym.prog 6 #[.int .i32 a0, .int .i32 a1, .int .i32 a2, .int .i32 a3] w fun e w' => e = .returned (.bool true) ∧ Grown w w' := by
  have b0 := bounds_i32 w0
  have b1 := bounds_i32 w1
  have b2 := bounds_i32 w2
  have b3 := bounds_i32 w3
  clear w0 w1 w2 w3
  by_cases hd : 0 ≤ a0 ∧ 0 ≤ a3 ∧ 1 ≤ a1 ∧ 0 ≤ a2
  · obtain ⟨h0, h3, h1, h2⟩ := hd
    have hs := Bk.bo_sat (l := a3) h0 h1 h3 a2.toNat
    have hm := Bk.base_sat (n := a2.toNat) h0 b0.2 h3 b3.2 h1
    obtain ⟨P, HP⟩ : ∃ P, Hid (Bk.sat (a3 + 1) (Bk.pw 1 a1 a2.toNat) = P) := ⟨_, rfl⟩
    obtain ⟨D, HD⟩ : ∃ D, Hid (Bk.bo a0 a1 a2.toNat a3 = D) := ⟨_, rfl⟩
    rw [HP.out] at hs hm
    have hD0 : 0 ≤ D := by rw [← HD.out]; exact Bk.bo_nonneg h0 h1 h3 _
    have hD1 : D ≤ a3 := by rw [← HD.out]; exact Bk.bo_le _ _ _ _
    rw [HD.out] at hs
    have hw : wrap64 (a0 * P) = a0 * P := Bk.wrap64_id hm.1 (by omega)
    go_enter Trym.func6, Trym.ntmps6
    by_cases hlt : a3 < a0 * P
    · rw [if_pos hlt] at hs
      have heq : (D == a3) = true := by simpa using hs
      clear hs
      go_wp2_with fail
      refine (Bk.satPowD _ h1 h2 (by omega) (by omega) (by omega) HP).mono ?_
      rintro e w' ⟨rfl, rfl⟩
      go_wp2_with fail
      refine (Bk.backoffD _ h0 b0.2 h1 b1.2 h2 b2.2 h3 b3.2 HD).mono ?_
      rintro e w' ⟨rfl, rfl⟩
      go_wp2
      go_ret
      exact ⟨rfl, by repeat (first | exact Grown.refl _ | apply Grown.drew | apply Grown.alloc)⟩
    · rw [if_neg hlt] at hs
      have heq : (D == a0 * P) = true := by simpa using hs
      clear hs
      go_wp2_with fail
      refine (Bk.satPowD _ h1 h2 (by omega) (by omega) (by omega) HP).mono ?_
      rintro e w' ⟨rfl, rfl⟩
      go_wp2_with fail
      refine (Bk.backoffD _ h0 b0.2 h1 b1.2 h2 b2.2 h3 b3.2 HD).mono ?_
      rintro e w' ⟨rfl, rfl⟩
      go_wp2
      go_ret
      exact ⟨rfl, by repeat (first | exact Grown.refl _ | apply Grown.drew | apply Grown.alloc)⟩
  · go_enter Trym.func6, Trym.ntmps6
    go_wp2_with fail
    all_goals first | (exfalso; omega) | (go_ret; exact ⟨rfl, by repeat (first | exact Grown.refl _ | apply Grown.drew | apply Grown.alloc)⟩)

/-! ### THE ROW's STEP: WRITTEN OUT: LEAVE IT -/
set_option maxRecDepth 100000 in
theorem lifted (os : Os) (started : os.Started) (H : Type) (enc : TypeId × Value → H) :
    ReturnsInHanded {} Trym.checked os 6 .any (Rows.fnBackoffDelayMatchesSaturatedPowerSpec.pre6 enc Trym.prog Trym.f6 Rows.fnBackoffDelayMatchesSaturatedPowerRow.domain false) (Rows.fnBackoffDelayMatchesSaturatedPowerSpec.post enc Trym.prog Trym.f6 false true false false) := by
  refine returnsInHanded_of_change (C := Trym.checked) own started (by kernel_rfl) Trym.func6
    (ChangeSpec.witness6 (enc := enc) (C := Trym.checked) false ⟨#[], #[.int .i32 0, .int .i32 0, .int .i32 0, .int .i32 0], []⟩ 8 (by kernel_rfl) (by kernel_rfl) (by kernel_rfl) (by kernel_rfl)) ?_
  intro W base args ds gs before hval0 hW hcnd _
  have hval : ∀ (j : Nat) t v, Trym.f6.params[j]? = some t → args[j]? = some v → Value.okWide Trym.prog W .any base t v := hval0
  have hW' := hW
  obtain ⟨p, q, hA0, hV, rfl, hfz, hnd⟩ := hW
  have hA : DataW.TrodAll enc Trym.prog W 0 (fun _ => true) true Trym.f6.params.toList args.toList ds p := hA0
  rw [Trym.params6] at hA hval
  obtain ⟨v0, vs0, d0, ds0, p0, q0, hargs, rfl, rfl, h0, r0⟩ := trodAll_cons hA
  obtain ⟨v1, vs1, d1, ds1, p1, q1, rfl, rfl, rfl, h1, r1⟩ := trodAll_cons r0
  obtain ⟨v2, vs2, d2, ds2, p2, q2, rfl, rfl, rfl, h2, r2⟩ := trodAll_cons r1
  obtain ⟨v3, vs3, d3, ds3, p3, q3, rfl, rfl, rfl, h3, r3⟩ := trodAll_cons r2
  obtain ⟨rfl, rfl, rfl⟩ := trodAll_nil r3
  obtain rfl : args = #[v0, v1, v2, v3] := by cases args; simp_all
  obtain ⟨rfl, rfl⟩ := trodVars_none hV
  obtain ⟨a0, rfl, rfl, rfl, w0⟩ := open_int Trym.underlying21 (hval 0 21 v0 rfl rfl) h0
  obtain ⟨a1, rfl, rfl, rfl, w1⟩ := open_int Trym.underlying21 (hval 1 21 v1 rfl rfl) h1
  obtain ⟨a2, rfl, rfl, rfl, w2⟩ := open_int Trym.underlying21 (hval 2 21 v2 rfl rfl) h2
  obtain ⟨a3, rfl, rfl, rfl, w3⟩ := open_int Trym.underlying21 (hval 3 21 v3 rfl rfl) h3
  clear hA0 hval0
  simp only [List.append_nil] at hW'
  refine (walk a0 a1 a2 a3 w0 w1 w2 w3 W).mono fun e W' ⟨he, hg⟩ => ?_
  subst he
  exact ⟨_, rfl, post_of_same (pa := []) (pv := []) hW' (fun _ _ _ => (trodAll_cons_mk (shut_bool Trym.underlying4 _) trodAll_mk0)) (fun sp _ => (trodAll_cons_mk (shut_int Trym.underlying21 w0) (trodAll_cons_mk (shut_int Trym.underlying21 w1) (trodAll_cons_mk (shut_int Trym.underlying21 w2) (trodAll_cons_mk (shut_int Trym.underlying21 w3) trodAll_mk0))))) (fun _ _ => rfl) rfl
    (hg.frame _) hg.2.1 (ok_one (by kernel_rfl) rfl (okWide_bool_mk Trym.underlying4 _))⟩

theorem over : Rows.fnBackoffDelayMatchesSaturatedPowerRow.holds Trym.pinned (OpenSpec.ofChange Rows.fnBackoffDelayMatchesSaturatedPowerSpec) :=
  OpenClaim.holds_of_wide 6 Trym.f6 rfl rfl rfl rfl rfl rfl rfl ⟨rfl, rfl, rfl, rfl, rfl⟩ rfl rfl rfl rfl rfl (by kernel_rfl) Trym.func6 (by kernel_rfl)
    (of_decide_eq_true (by kernel_rfl)) (by unfold Func.isWrapper; first | (rw [if_pos (by decide +kernel)]; kernel_rfl) | (rw [if_neg (by decide +kernel)]; exact ⟨rfl, rfl⟩))
    (fun os started H enc _ => lifted os started H enc)

/-- THE STATEMENT -/
theorem proved : Rows.FnBackoffDelayMatchesSaturatedPowerSaid :=
  over
end Go.Proofs.Qxb6602626aMods.fnBackoffDelayMatchesSaturatedPower
