import Derived.Test.Qxb6602626aModsOpen
import Derived.Test.Qxb6602626aModsAsgWalk
namespace Go.Proofs.Qxb6602626aMods.fnAppliesToOneAssignedFlavor
open Go.ChangeShapes Go.WideShapes Go.ChangeAt Go.RowKit
open Go.ChangeMaps (open_string shut_string)
open Ss
set_option linter.unusedVariables false

theorem walk (a0 : ByteArray) (a1 : Option Addr) (len1 cap1 : Nat) (a2 : ByteArray) (ss : Nat → ByteArray) (w : World)
    (h0 : a0.size ≤ maxLen) (h1 : len1 ≤ maxLen) (h2 : a2.size ≤ maxLen) (hs : ∀ j, j < len1 → (ss j).size ≤ maxLen) (hr : Reads w w.heap.size a1 len1 ss) :
    Calls Trym.prog 5 #[.string a0, .slice a1 len1 cap1, .string a2] w fun e w' => e = .returned (.bool true) ∧ Below w.heap.size w w' := by
  by_cases hbig : 65536 < len1 ∨ 1048576 < a0.size ∨ 1048576 < a2.size
  · exact Asg.big a0 a1 len1 cap1 ss a2 w h1 h0 h2 hr hs hbig
  · exact Asg.small a0 a1 len1 cap1 ss a2 w (by omega) (by omega) (by omega) hr hs

set_option maxRecDepth 100000 in
theorem lifted (os : Os) (started : os.Started) (H : Type) (enc : TypeId × Value → H) :
    ReturnsInHanded {} Trym.checked os 5 .any (Rows.fnAppliesToOneAssignedFlavorSpec.pre6 enc Trym.prog Trym.f5 Rows.fnAppliesToOneAssignedFlavorRow.domain false) (Rows.fnAppliesToOneAssignedFlavorSpec.post enc Trym.prog Trym.f5 false true false false) := by
  refine returnsInHanded_of_change (C := Trym.checked) own started (by kernel_rfl) Trym.func5
    (ChangeSpec.witness6 (enc := enc) (C := Trym.checked) false ⟨#[], #[.string ByteArray.empty, .slice none 0 0, .string ByteArray.empty], []⟩ 8 (by kernel_rfl) (by kernel_rfl) (by kernel_rfl) (by kernel_rfl)) ?_
  intro W base args ds gs before hval0 hW hcnd _
  have hval : ∀ (j : Nat) t v, Trym.f5.params[j]? = some t → args[j]? = some v → Value.okWide Trym.prog W .any base t v := hval0
  have hW' := hW
  obtain ⟨p, q, hA0, hV, rfl, hfz, hnd⟩ := hW
  have hA : DataW.TrodAll enc Trym.prog W 0 (fun _ => true) true Trym.f5.params.toList args.toList ds p := hA0
  rw [Trym.params5] at hA hval
  obtain ⟨v0, vs0, d0, ds0, p0, q0, hargs, rfl, rfl, h0, r0⟩ := trodAll_cons hA
  obtain ⟨v1, vs1, d1, ds1, p1, q1, rfl, rfl, rfl, h1, r1⟩ := trodAll_cons r0
  obtain ⟨v2, vs2, d2, ds2, p2, q2, rfl, rfl, rfl, h2, r2⟩ := trodAll_cons r1
  obtain ⟨rfl, rfl, rfl⟩ := trodAll_nil r2
  obtain rfl : args = #[v0, v1, v2] := by cases args; simp_all
  obtain ⟨rfl, rfl⟩ := trodVars_none hV
  obtain ⟨a0, rfl, rfl, rfl, w0⟩ := open_string Trym.underlying9 (hval 0 9 v0 rfl rfl) h0
  obtain ⟨a1, len1, cap1, rfl⟩ := okWide_slice Trym.underlying22 (hval 1 22 v1 rfl rfl)
  have k1 := h1
  have lt1 : ∀ x ∈ p1, x.block < W.heap.size := by obtain ⟨m, hm⟩ := k1; exact DataW.trod_lt m _ _ _ hm
  obtain ⟨ss, hl1, hs1, hr1⟩ : ∃ ss : Nat → ByteArray, len1 ≤ maxLen ∧ (∀ j, j < len1 → (ss j).size ≤ maxLen) ∧ Reads W W.heap.size a1 len1 ss := by
    obtain ⟨fuel, hf⟩ := h1
    exact strs_in (by simpa [Value.cells] using hf)
  obtain ⟨a2, rfl, rfl, rfl, w2⟩ := open_string Trym.underlying9 (hval 2 9 v2 rfl rfl) h2
  clear hA0 hval0
  refine (walk a0 a1 len1 cap1 a2 ss W w0 hl1 w2 hs1 hr1).mono fun e W' ⟨he, bel⟩ => ?_
  subst he
  exact ⟨_, rfl, _, _, _, [], _, [], hW', trodAll_mk1 (shut_bool Trym.underlying4 _), (trodAll_cons_mk (shut_string Trym.underlying9 w0) (trodAll_cons_mk (Below.trod laidOut (by kernel_rfl) (of_decide_eq_true (by kernel_rfl)) k1 bel lt1) (trodAll_cons_mk (shut_string Trym.underlying9 w2) trodAll_mk0))), rfl, bel.frame _, fun h => by cases h⟩

theorem over : Rows.fnAppliesToOneAssignedFlavorRow.holds Trym.pinned (OpenSpec.ofChange Rows.fnAppliesToOneAssignedFlavorSpec) :=
  OpenClaim.holds_of_wide 5 Trym.f5 rfl rfl rfl rfl rfl rfl rfl ⟨rfl, rfl, rfl, rfl, rfl⟩ rfl rfl rfl rfl rfl (by kernel_rfl) Trym.func5 (by kernel_rfl)
    (of_decide_eq_true (by kernel_rfl)) (by unfold Func.isWrapper; first | (rw [if_pos (by decide +kernel)]; kernel_rfl) | (rw [if_neg (by decide +kernel)]; exact ⟨rfl, rfl⟩))
    (fun os started H enc _ => lifted os started H enc)

/-- THE STATEMENT -/
theorem proved : Rows.FnAppliesToOneAssignedFlavorSaid := over
end Go.Proofs.Qxb6602626aMods.fnAppliesToOneAssignedFlavor
