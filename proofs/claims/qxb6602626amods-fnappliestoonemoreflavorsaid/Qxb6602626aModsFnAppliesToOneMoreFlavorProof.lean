import Derived.Test.Qxb6602626aModsOpen
import Derived.Test.Qxb6602626aModsMoreWalk
namespace Go.Proofs.Qxb6602626aMods.fnAppliesToOneMoreFlavor
open Go.ChangeShapes Go.WideShapes Go.ChangeAt Go.RowKit
open Go.ChangeMaps (open_string shut_string)
open Go.Maps Go.WideMaps Go.WideElems Ss
set_option linter.unusedVariables false

theorem plainElem_bool_inv {H : Type} {P : Program} {e : TypeId} (he : P.underlying e = some .bool) {v : Value} {z : DataW H × List MemPlace} (h : plainElem P e v = some z) : ∃ a, v = .bool a ∧ z = (.lit (.bool a), []) := by
  unfold plainElem at h
  rw [he] at h
  cases v <;> simp at h
  subst h
  exact ⟨_, rfl, rfl⟩

def boolOf {H : Type} : DataW H → Bool
  | .lit (.bool x) => x
  | _ => false

/-- A map[string]bool that came in, as the walks are told of it: how long it is, and what each look-up answers, in every later world. -/
theorem map_in {H : Type} {enc : TypeId × Value → H} {W : World} {fuel : Nat} {m : Option Nat} {x : DataW H × List MemPlace}
    (h : DataW.trod enc Trym.prog W 0 (fun _ => true) true fuel 27 [.map m] = some x) :
    ∃ (L : Nat) (g : ByteArray → Bool), L ≤ maxLen ∧ (∀ ty w', Below W.heap.size W w' → (Builtin.len_ #[27] ty #[.map m]).run Trym.prog w' = .ok (.int .i64 L) w') ∧
      ∀ s : ByteArray, s.size ≤ maxLen → ∀ w', Below W.heap.size W w' → (Instr.lookup 27 (.map m) (.string s) false).run Trym.prog w' = .ok (.bool (g s)) w' := by
  rcases WideElems.open_map Trym.underlying27 h with ⟨hcs, _⟩ | ⟨b, es, clock, n, _, hcs, hb, _, F, _⟩
  · simp at hcs
    subst hcs
    refine ⟨0, fun _ => false, by unfold maxLen; omega, fun ty w' _ => Maps.len_nil Trym.underlying27 ty, fun s hs w' _ => ?_⟩
    exact Maps.look_nil false law Trym.underlying27 (zero4 _) (keyOf_string_mk Trym.underlying9 hs)
  · simp at hcs
    subst hcs
    have hlt : b < W.heap.size := (Array.getElem?_eq_some_iff.1 hb).1
    have hfit : ∀ w', Below W.heap.size W w' → w'.ownsMap Trym.prog 9 (plainElem (H := H) Trym.prog 4) b es.size (.map ((es.toList.map (rg Trym.prog 9 (elemAt enc Trym.prog W 0 (fun _ => true) true n 4))).foldr DataW.insert [])) := fun w' hb' =>
      World.ownsMap_of_fit ((hb'.block b hlt).trans hb) F (fun x _ z hz => by obtain ⟨c, h1, rfl⟩ := elemAt_bool Trym.underlying4 hz; rw [h1]; exact plainElem_bool Trym.underlying4 c)
    generalize (DataW.map ((es.toList.map (rg Trym.prog 9 (elemAt enc Trym.prog W 0 (fun _ => true) true n 4))).foldr DataW.insert [])) = D at hfit
    refine ⟨Maps.size D, fun s => boolOf (D.atKey (.string s.data.toList) (.lit (.bool false))), Nat.le_trans (hfit W (Below.refl _ _)).size_le F.size, fun ty w' hb' => (hfit w' hb').len Trym.underlying27 ty, fun s hs w' hb' => ?_⟩
    obtain ⟨v, ps, hrun, hv⟩ := (hfit w' hb').lookup law Trym.underlying27 (zero4 w') (plainElem_bool Trym.underlying4 false) (keyOf_string_mk Trym.underlying9 hs)
    obtain ⟨c, rfl, hc⟩ := plainElem_bool_inv Trym.underlying4 hv
    simp only [Prod.mk.injEq] at hc
    rw [hrun]
    show _ = Result.ok (Value.bool (boolOf (D.atKey (Lit.string s.data.toList) (DataW.lit (Lit.bool false))))) w'
    rw [hc.1]
    rfl

theorem walk (a0 a1 : ByteArray) (a2 : Option Addr) (len2 cap2 : Nat) (a3 : ByteArray) (m : Option Nat) (L : Nat) (ss : Nat → ByteArray) (g : ByteArray → Bool) (w : World)
    (h0 : a0.size ≤ maxLen) (h1 : a1.size ≤ maxLen) (h2 : len2 ≤ maxLen) (h3 : a3.size ≤ maxLen) (h4 : L ≤ maxLen) (hs : ∀ j, j < len2 → (ss j).size ≤ maxLen) (hr : Reads w w.heap.size a2 len2 ss)
    (hlen : ∀ ty w', Below w.heap.size w w' → (Builtin.len_ #[27] ty #[.map m]).run Trym.prog w' = .ok (.int .i64 L) w')
    (hlook : ∀ s : ByteArray, s.size ≤ maxLen → ∀ w', Below w.heap.size w w' → (Instr.lookup 27 (.map m) (.string s) false).run Trym.prog w' = .ok (.bool (g s)) w') :
    Calls Trym.prog 4 #[.string a0, .string a1, .slice a2 len2 cap2, .string a3, .map m] w fun e w' => e = .returned (.bool true) ∧ Below w.heap.size w w' := by
  by_cases hbig : 1048576 < a0.size ∨ 1048576 < a1.size ∨ 65536 < len2 ∨ 1048576 < a3.size ∨ 65536 < L
  · exact More.big a0 a1 a2 len2 cap2 a3 m L w h0 h1 h2 h3 h4 hlen hbig
  · exact More.small a0 a1 a2 len2 cap2 a3 m L ss g w (by omega) (by omega) (by omega) (by omega) (by omega) hs hr hlen hlook

set_option maxRecDepth 100000 in
theorem lifted (os : Os) (started : os.Started) (H : Type) (enc : TypeId × Value → H) :
    ReturnsInHanded {} Trym.checked os 4 .any (Rows.fnAppliesToOneMoreFlavorSpec.pre6 enc Trym.prog Trym.f4 Rows.fnAppliesToOneMoreFlavorRow.domain false) (Rows.fnAppliesToOneMoreFlavorSpec.post enc Trym.prog Trym.f4 false true false false) := by
  refine returnsInHanded_of_change (C := Trym.checked) own started (by kernel_rfl) Trym.func4
    (ChangeSpec.witness6 (enc := enc) (C := Trym.checked) false ⟨#[], #[.string ByteArray.empty, .string ByteArray.empty, .slice none 0 0, .string ByteArray.empty, .map none], []⟩ 8 (by kernel_rfl) (by kernel_rfl) (by kernel_rfl) (by kernel_rfl)) ?_
  intro W base args ds gs before hval0 hW hcnd _
  have hval : ∀ (j : Nat) t v, Trym.f4.params[j]? = some t → args[j]? = some v → Value.okWide Trym.prog W .any base t v := hval0
  have hW' := hW
  obtain ⟨p, q, hA0, hV, rfl, hfz, hnd⟩ := hW
  have hA : DataW.TrodAll enc Trym.prog W 0 (fun _ => true) true Trym.f4.params.toList args.toList ds p := hA0
  rw [Trym.params4] at hA hval
  obtain ⟨v0, vs0, d0, ds0, p0, q0, hargs, rfl, rfl, h0, r0⟩ := trodAll_cons hA
  obtain ⟨v1, vs1, d1, ds1, p1, q1, rfl, rfl, rfl, h1, r1⟩ := trodAll_cons r0
  obtain ⟨v2, vs2, d2, ds2, p2, q2, rfl, rfl, rfl, h2, r2⟩ := trodAll_cons r1
  obtain ⟨v3, vs3, d3, ds3, p3, q3, rfl, rfl, rfl, h3, r3⟩ := trodAll_cons r2
  obtain ⟨v4, vs4, d4, ds4, p4, q4, rfl, rfl, rfl, h4, r4⟩ := trodAll_cons r3
  obtain ⟨rfl, rfl, rfl⟩ := trodAll_nil r4
  obtain rfl : args = #[v0, v1, v2, v3, v4] := by cases args; simp_all
  obtain ⟨rfl, rfl⟩ := trodVars_none hV
  obtain ⟨a0, rfl, rfl, rfl, w0⟩ := open_string Trym.underlying9 (hval 0 9 v0 rfl rfl) h0
  obtain ⟨a1, rfl, rfl, rfl, w1⟩ := open_string Trym.underlying9 (hval 1 9 v1 rfl rfl) h1
  obtain ⟨a2, len2, cap2, rfl⟩ := okWide_slice Trym.underlying22 (hval 2 22 v2 rfl rfl)
  have k2 := h2
  have lt2 : ∀ x ∈ p2, x.block < W.heap.size := by obtain ⟨m, hm⟩ := k2; exact DataW.trod_lt m _ _ _ hm
  obtain ⟨ss, hl2, hs2, hr2⟩ : ∃ ss : Nat → ByteArray, len2 ≤ maxLen ∧ (∀ j, j < len2 → (ss j).size ≤ maxLen) ∧ Reads W W.heap.size a2 len2 ss := by
    obtain ⟨fuel, hf⟩ := h2
    exact strs_in (by simpa [Value.cells] using hf)
  obtain ⟨a3, rfl, rfl, rfl, w3⟩ := open_string Trym.underlying9 (hval 3 9 v3 rfl rfl) h3
  obtain ⟨m4, rfl⟩ := okWide_map Trym.underlying27 (hval 4 27 v4 rfl rfl)
  have k4 := h4
  have lt4 : ∀ x ∈ p4, x.block < W.heap.size := by obtain ⟨m, hm⟩ := k4; exact DataW.trod_lt m _ _ _ hm
  obtain ⟨L, g, hL, hlen, hlook⟩ : ∃ (L : Nat) (g : ByteArray → Bool), L ≤ maxLen ∧ (∀ ty w', Below W.heap.size W w' → (Builtin.len_ #[27] ty #[.map m4]).run Trym.prog w' = .ok (.int .i64 L) w') ∧
      ∀ s : ByteArray, s.size ≤ maxLen → ∀ w', Below W.heap.size W w' → (Instr.lookup 27 (.map m4) (.string s) false).run Trym.prog w' = .ok (.bool (g s)) w' := by
    obtain ⟨fuel, hf⟩ := h4
    exact map_in (by simpa [Value.cells] using hf)
  clear hA0 hval0
  refine (walk a0 a1 a2 len2 cap2 a3 m4 L ss g W w0 w1 hl2 w3 hL hs2 hr2 hlen hlook).mono fun e W' ⟨he, bel⟩ => ?_
  subst he
  exact ⟨_, rfl, _, _, _, [], _, [], hW', trodAll_mk1 (shut_bool Trym.underlying4 _), (trodAll_cons_mk (shut_string Trym.underlying9 w0) (trodAll_cons_mk (shut_string Trym.underlying9 w1) (trodAll_cons_mk (Below.trod laidOut (by kernel_rfl) (of_decide_eq_true (by kernel_rfl)) k2 bel lt2) (trodAll_cons_mk (shut_string Trym.underlying9 w3) (trodAll_cons_mk (Below.trod laidOut (by kernel_rfl) (of_decide_eq_true (by kernel_rfl)) k4 bel lt4) trodAll_mk0))))), rfl, bel.frame _, fun h => by cases h⟩

theorem over : Rows.fnAppliesToOneMoreFlavorRow.holds Trym.pinned (OpenSpec.ofChange Rows.fnAppliesToOneMoreFlavorSpec) :=
  OpenClaim.holds_of_wide 4 Trym.f4 rfl rfl rfl rfl rfl rfl rfl ⟨rfl, rfl, rfl, rfl, rfl⟩ rfl rfl rfl rfl rfl (by kernel_rfl) Trym.func4 (by kernel_rfl)
    (of_decide_eq_true (by kernel_rfl)) (by unfold Func.isWrapper; first | (rw [if_pos (by decide +kernel)]; kernel_rfl) | (rw [if_neg (by decide +kernel)]; exact ⟨rfl, rfl⟩))
    (fun os started H enc _ => lifted os started H enc)

/-- THE STATEMENT -/
theorem proved : Rows.FnAppliesToOneMoreFlavorSaid := over
end Go.Proofs.Qxb6602626aMods.fnAppliesToOneMoreFlavor
