import Derived.Test.Qxb6602368aModsQuote
import Derived.Test.Qxb6602368aModsQPlain2
namespace Go.Proofs.Qxb6602368aMods.Q
open Go.RowKit By

theorem zqhex (d x : Int) (w : World) (h : (0 ≤ d ∧ d ≤ 9 ∧ x = 48 + d) ∨ (10 ≤ d ∧ d ≤ 15 ∧ x = 87 + d)) :
    Calls Trym.prog 22 #[.int .u8 d] w fun e w' => e = .returned (.int .u8 x) ∧ w' = w := by
  rcases h with ⟨h0, h1, rfl⟩ | ⟨h0, h1, rfl⟩
  · go_enter Trym.func22, Trym.ntmps22
    go_wp2
    go_ret
    exact ⟨ret_int (by omega), rfl⟩
  · go_enter Trym.func22, Trym.ntmps22
    go_wp2
    go_ret
    exact ⟨ret_int (by omega), rfl⟩

/-- zqEqual on two rows of the same bytes -/
theorem equal_same (a1 a2 : Option Addr) (n c1 c2 B1 B2 : Nat) (X : List UInt8) (w : World) (hX : X.length = n) (hn : n ≤ 16777216) (h1 : Reads w B1 a1 X) (h2 : Reads w B2 a2 X) :
    Calls Trym.prog 13 #[.slice a1 n c1, .slice a2 n c2] w fun e w' => e = .returned (.bool true) ∧ ∃ q, w' = w.drewN q := by
  have HX : Hid (X.length = n) := hX
  clear hX
  go_enter Trym.func13, Trym.ntmps13
  go_wp2
  go_loopw [5] (fun i wr => ∃ k q : Nat, k ≤ n ∧ i = .int .i64 k ∧ wr = w.drewN q) (fun i _ => n - (intOf i).toNat)
  case atStart => exact ⟨0, 0, Nat.zero_le _, rfl, rfl⟩
  case round =>
    obtain ⟨k, q, hk, rfl, rfl⟩ := hrel
    by_cases hlt : k < n
    · obtain ⟨b, off, rfl, _, hc1⟩ := h1 (by have := HX.out; omega)
      obtain ⟨b', off', rfl, _, hc2⟩ := h2 (by have := HX.out; omega)
      have k1 := hc1 k (by have := HX.out; omega)
      have k2 := hc2 k (by have := HX.out; omega)
      clear hc1 hc2 h1 h2
      generalize X.getD k 0 = ch at k1 k2
      unfold u8v at k1 k2
      have hi1 : (k : Int) < (n : Int) := by omega
      go_wp2
      go_quiet (fail)
      go_wp2
      go_roundw
      case rel => exact ⟨k + 1, _, by omega, by go_num, rfl⟩
      case measure => simp [intOf]; omega
    · clear h1 h2
      go_wp2
      go_ret
      exact ⟨rfl, _, rfl⟩

theorem nibs (c : UInt8) :
    Hid ((0 ≤ (c.toNat : Int) / 16 ∧ (c.toNat : Int) / 16 ≤ 9 ∧ ((hexd (c / 16)).toNat : Int) = 48 + (c.toNat : Int) / 16) ∨ (10 ≤ (c.toNat : Int) / 16 ∧ (c.toNat : Int) / 16 ≤ 15 ∧ ((hexd (c / 16)).toNat : Int) = 87 + (c.toNat : Int) / 16)) ∧
    Hid ((0 ≤ (c.toNat : Int) % 16 ∧ (c.toNat : Int) % 16 ≤ 9 ∧ ((hexd (c % 16)).toNat : Int) = 48 + (c.toNat : Int) % 16) ∨ (10 ≤ (c.toNat : Int) % 16 ∧ (c.toNat : Int) % 16 ≤ 15 ∧ ((hexd (c % 16)).toNat : Int) = 87 + (c.toNat : Int) % 16)) := by
  have e1 : (c / 16).toNat = c.toNat / 16 := by rw [UInt8.toNat_div]; rfl
  have e2 : (c % 16).toNat = c.toNat % 16 := by rw [UInt8.toNat_mod]; rfl
  have k1 := hexd_cases (div16 c)
  have k2 := hexd_cases (mod16 c)
  refine ⟨?_, ?_⟩
  · rcases k1 with ⟨a, b⟩ | ⟨a, b, d⟩
    · exact .inl ⟨by omega, by omega, by omega⟩
    · exact .inr ⟨by omega, by omega, by omega⟩
  · rcases k2 with ⟨a, b⟩ | ⟨a, b, d⟩
    · exact .inl ⟨by omega, by omega, by omega⟩
    · exact .inr ⟨by omega, by omega, by omega⟩

set_option maxHeartbeats 4000000 in
theorem appendEsc (base : Nat) (v : Value) (X : List UInt8) (ch : UInt8) (w : World) (hX : X.length ≤ 16777216) (hB : base ≤ w.heap.size) (hown : w.ownsRow base 5 1 v X.length (bs X)) :
    Calls Trym.prog 12 #[v, .int .u8 ch.toNat] w fun e w' => ∃ v', e = .returned v' ∧ w'.ownsRow base 5 1 v' (X ++ escB ch).length (bs (X ++ escB ch)) ∧ Below base w w' := by
  obtain ⟨i0, hi, hz0, hz1, hz2⟩ := info_parts info5
  have HO : Hid (w.ownsRow base 5 1 v X.length (bs X)) := hown
  clear hown
  by_cases h34 : ch = 34
  · have HE : Hid (escB ch = [92, 34]) := by show escB ch = [92, 34]; rw [escB_of h34]; rfl
    have hv : (ch.toNat : Int) = 34 := by rw [h34]; rfl
    clear h34
    rw [HE.out]
    go_enter Trym.func12, Trym.ntmps12
    go_wp2_with (at_builtin; refine wpList_append_own _ rfl (.tmp 8) (.tmp 9) 22 rfl base 5 i0 (.int .u8 0) 1 1 Trym.underlying22 hi hz0 hz1 hz2 rfl (by decide) _ _ _ rfl (HO.out.alloc _) ⟨w.heap.size, 0, none⟩ 2 2 (bs [92, 34]) rfl rfl (cells_new _) (bs_one _) (by unfold maxLen; omega) (by omega) (by simp; omega) ?_; intro v3 w3 hown3 hgrow3 _; have HX3 : Hid (w3.ownsRow base 5 1 v3 (X ++ [92, 34]).length (bs (X ++ [92, 34]))) := owns_norm hown3 (bs_append _ _).symm; have hb3 : Below base w w3 := ((Below.refl _ _).alloc hB _).grown hgrow3 (by simp; omega) (fun q hq => (HO.out.lt q hq).1); clear hown3 hgrow3)
    go_ret
    exact ⟨_, rfl, HX3.out, hb3⟩
  have n34 : ((ch.toNat : Int) == 34) = false := ne_bool h34
  by_cases h92 : ch = 92
  · have HE : Hid (escB ch = [92, 92]) := by show escB ch = [92, 92]; rw [escB_of h92]; rfl
    have hv : (ch.toNat : Int) = 92 := by rw [h92]; rfl
    clear h92
    rw [HE.out]
    go_enter Trym.func12, Trym.ntmps12
    go_wp2_with (at_builtin; refine wpList_append_own _ rfl (.tmp 13) (.tmp 14) 22 rfl base 5 i0 (.int .u8 0) 1 1 Trym.underlying22 hi hz0 hz1 hz2 rfl (by decide) _ _ _ rfl (HO.out.alloc _) ⟨w.heap.size, 0, none⟩ 2 2 (bs [92, 92]) rfl rfl (cells_new _) (bs_one _) (by unfold maxLen; omega) (by omega) (by simp; omega) ?_; intro v3 w3 hown3 hgrow3 _; have HX3 : Hid (w3.ownsRow base 5 1 v3 (X ++ [92, 92]).length (bs (X ++ [92, 92]))) := owns_norm hown3 (bs_append _ _).symm; have hb3 : Below base w w3 := ((Below.refl _ _).alloc hB _).grown hgrow3 (by simp; omega) (fun q hq => (HO.out.lt q hq).1); clear hown3 hgrow3)
    go_ret
    exact ⟨_, rfl, HX3.out, hb3⟩
  have n92 : ((ch.toNat : Int) == 92) = false := ne_bool h92
  by_cases h10 : ch = 10
  · have HE : Hid (escB ch = [92, 110]) := by show escB ch = [92, 110]; rw [escB_of h10]; rfl
    have hv : (ch.toNat : Int) = 10 := by rw [h10]; rfl
    clear h10
    rw [HE.out]
    go_enter Trym.func12, Trym.ntmps12
    go_wp2_with (at_builtin; refine wpList_append_own _ rfl (.tmp 18) (.tmp 19) 22 rfl base 5 i0 (.int .u8 0) 1 1 Trym.underlying22 hi hz0 hz1 hz2 rfl (by decide) _ _ _ rfl (HO.out.alloc _) ⟨w.heap.size, 0, none⟩ 2 2 (bs [92, 110]) rfl rfl (cells_new _) (bs_one _) (by unfold maxLen; omega) (by omega) (by simp; omega) ?_; intro v3 w3 hown3 hgrow3 _; have HX3 : Hid (w3.ownsRow base 5 1 v3 (X ++ [92, 110]).length (bs (X ++ [92, 110]))) := owns_norm hown3 (bs_append _ _).symm; have hb3 : Below base w w3 := ((Below.refl _ _).alloc hB _).grown hgrow3 (by simp; omega) (fun q hq => (HO.out.lt q hq).1); clear hown3 hgrow3)
    go_ret
    exact ⟨_, rfl, HX3.out, hb3⟩
  have n10 : ((ch.toNat : Int) == 10) = false := ne_bool h10
  by_cases h13 : ch = 13
  · have HE : Hid (escB ch = [92, 114]) := by show escB ch = [92, 114]; rw [escB_of h13]; rfl
    have hv : (ch.toNat : Int) = 13 := by rw [h13]; rfl
    clear h13
    rw [HE.out]
    go_enter Trym.func12, Trym.ntmps12
    go_wp2_with (at_builtin; refine wpList_append_own _ rfl (.tmp 23) (.tmp 24) 22 rfl base 5 i0 (.int .u8 0) 1 1 Trym.underlying22 hi hz0 hz1 hz2 rfl (by decide) _ _ _ rfl (HO.out.alloc _) ⟨w.heap.size, 0, none⟩ 2 2 (bs [92, 114]) rfl rfl (cells_new _) (bs_one _) (by unfold maxLen; omega) (by omega) (by simp; omega) ?_; intro v3 w3 hown3 hgrow3 _; have HX3 : Hid (w3.ownsRow base 5 1 v3 (X ++ [92, 114]).length (bs (X ++ [92, 114]))) := owns_norm hown3 (bs_append _ _).symm; have hb3 : Below base w w3 := ((Below.refl _ _).alloc hB _).grown hgrow3 (by simp; omega) (fun q hq => (HO.out.lt q hq).1); clear hown3 hgrow3)
    go_ret
    exact ⟨_, rfl, HX3.out, hb3⟩
  have n13 : ((ch.toNat : Int) == 13) = false := ne_bool h13
  by_cases h9 : ch = 9
  · have HE : Hid (escB ch = [92, 116]) := by show escB ch = [92, 116]; rw [escB_of h9]; rfl
    have hv : (ch.toNat : Int) = 9 := by rw [h9]; rfl
    clear h9
    rw [HE.out]
    go_enter Trym.func12, Trym.ntmps12
    go_wp2_with (at_builtin; refine wpList_append_own _ rfl (.tmp 28) (.tmp 29) 22 rfl base 5 i0 (.int .u8 0) 1 1 Trym.underlying22 hi hz0 hz1 hz2 rfl (by decide) _ _ _ rfl (HO.out.alloc _) ⟨w.heap.size, 0, none⟩ 2 2 (bs [92, 116]) rfl rfl (cells_new _) (bs_one _) (by unfold maxLen; omega) (by omega) (by simp; omega) ?_; intro v3 w3 hown3 hgrow3 _; have HX3 : Hid (w3.ownsRow base 5 1 v3 (X ++ [92, 116]).length (bs (X ++ [92, 116]))) := owns_norm hown3 (bs_append _ _).symm; have hb3 : Below base w w3 := ((Below.refl _ _).alloc hB _).grown hgrow3 (by simp; omega) (fun q hq => (HO.out.lt q hq).1); clear hown3 hgrow3)
    go_ret
    exact ⟨_, rfl, HX3.out, hb3⟩
  have n9 : ((ch.toNat : Int) == 9) = false := ne_bool h9
  by_cases h8 : ch = 8
  · have HE : Hid (escB ch = [92, 98]) := by show escB ch = [92, 98]; rw [escB_of h8]; rfl
    have hv : (ch.toNat : Int) = 8 := by rw [h8]; rfl
    clear h8
    rw [HE.out]
    go_enter Trym.func12, Trym.ntmps12
    go_wp2_with (at_builtin; refine wpList_append_own _ rfl (.tmp 33) (.tmp 34) 22 rfl base 5 i0 (.int .u8 0) 1 1 Trym.underlying22 hi hz0 hz1 hz2 rfl (by decide) _ _ _ rfl (HO.out.alloc _) ⟨w.heap.size, 0, none⟩ 2 2 (bs [92, 98]) rfl rfl (cells_new _) (bs_one _) (by unfold maxLen; omega) (by omega) (by simp; omega) ?_; intro v3 w3 hown3 hgrow3 _; have HX3 : Hid (w3.ownsRow base 5 1 v3 (X ++ [92, 98]).length (bs (X ++ [92, 98]))) := owns_norm hown3 (bs_append _ _).symm; have hb3 : Below base w w3 := ((Below.refl _ _).alloc hB _).grown hgrow3 (by simp; omega) (fun q hq => (HO.out.lt q hq).1); clear hown3 hgrow3)
    go_ret
    exact ⟨_, rfl, HX3.out, hb3⟩
  have n8 : ((ch.toNat : Int) == 8) = false := ne_bool h8
  by_cases h12 : ch = 12
  · have HE : Hid (escB ch = [92, 102]) := by show escB ch = [92, 102]; rw [escB_of h12]; rfl
    have hv : (ch.toNat : Int) = 12 := by rw [h12]; rfl
    clear h12
    rw [HE.out]
    go_enter Trym.func12, Trym.ntmps12
    go_wp2_with (at_builtin; refine wpList_append_own _ rfl (.tmp 38) (.tmp 39) 22 rfl base 5 i0 (.int .u8 0) 1 1 Trym.underlying22 hi hz0 hz1 hz2 rfl (by decide) _ _ _ rfl (HO.out.alloc _) ⟨w.heap.size, 0, none⟩ 2 2 (bs [92, 102]) rfl rfl (cells_new _) (bs_one _) (by unfold maxLen; omega) (by omega) (by simp; omega) ?_; intro v3 w3 hown3 hgrow3 _; have HX3 : Hid (w3.ownsRow base 5 1 v3 (X ++ [92, 102]).length (bs (X ++ [92, 102]))) := owns_norm hown3 (bs_append _ _).symm; have hb3 : Below base w w3 := ((Below.refl _ _).alloc hB _).grown hgrow3 (by simp; omega) (fun q hq => (HO.out.lt q hq).1); clear hown3 hgrow3)
    go_ret
    exact ⟨_, rfl, HX3.out, hb3⟩
  have n12 : ((ch.toNat : Int) == 12) = false := ne_bool h12
  by_cases hdef : ch < 32
  · have HE : Hid (escB ch = [92, 117, 48, 48, hexd (ch / 16), hexd (ch % 16)]) := by
      show escB ch = [92, 117, 48, 48, hexd (ch / 16), hexd (ch % 16)]
      unfold escB
      rw [if_neg h34, if_neg h92, if_neg h10, if_neg h13, if_neg h9, if_neg h8, if_neg h12, if_pos hdef]
    have hd0 : (ch.toNat : Int) < 32 := by have := UInt8.lt_iff_toNat_lt.1 hdef; simp at this; omega
    obtain ⟨H1, H2⟩ := nibs ch
    clear h34 h92 h10 h13 h9 h8 h12 hdef
    rw [HE.out]
    generalize hexd (ch / 16) = d1 at H1
    generalize hexd (ch % 16) = d2 at H2
    clear HE
    go_enter Trym.func12, Trym.ntmps12
    go_wp2_with fail
    refine (zqhex _ _ _ H1.out).mono ?_
    rintro e w9 ⟨rfl, hw9⟩
    subst hw9
    go_wp2_with fail
    refine (zqhex _ _ _ H2.out).mono ?_
    rintro e w9 ⟨rfl, hw9⟩
    subst hw9
    go_wp2_with (at_builtin; refine wpList_append_own _ rfl (.tmp 43) (.tmp 50) 22 rfl base 5 i0 (.int .u8 0) 1 1 Trym.underlying22 hi hz0 hz1 hz2 rfl (by decide) _ _ _ rfl (HO.out.alloc _) ⟨w9.heap.size, 0, none⟩ 6 6 (bs [92, 117, 48, 48, d1, d2]) rfl rfl (cells_new _) (bs_one _) (by unfold maxLen; omega) (by omega) (by simp; omega) ?_; intro v3 w3 hown3 hgrow3 _; have HX3 : Hid (w3.ownsRow base 5 1 v3 (X ++ [92, 117, 48, 48, d1, d2]).length (bs (X ++ [92, 117, 48, 48, d1, d2]))) := owns_norm hown3 (bs_append _ _).symm; have hb3 : Below base w9 w3 := ((Below.refl _ _).alloc hB _).grown hgrow3 (by simp; omega) (fun q hq => (HO.out.lt q hq).1); clear hown3 hgrow3)
    go_ret
    exact ⟨_, rfl, HX3.out, hb3⟩
  · have HE : Hid (escB ch = [ch]) := by
      show escB ch = [ch]
      unfold escB
      rw [if_neg h34, if_neg h92, if_neg h10, if_neg h13, if_neg h9, if_neg h8, if_neg h12, if_neg hdef]
    have hd0 : ¬ (ch.toNat : Int) < 32 := by
      intro h
      exact hdef (UInt8.lt_iff_toNat_lt.2 (by simp; omega))
    clear h34 h92 h10 h13 h9 h8 h12 hdef
    go_enter Trym.func12, Trym.ntmps12
    go_wp2_with (at_builtin; refine wpList_append_own _ rfl (.tmp 52) (.tmp 54) 22 rfl base 5 i0 (.int .u8 0) 1 1 Trym.underlying22 hi hz0 hz1 hz2 rfl (by decide) _ _ _ rfl (HO.out.alloc _) ⟨w.heap.size, 0, none⟩ 1 1 (bs [ch]) rfl rfl (cells_new _) (bs_one _) (by unfold maxLen; omega) (by omega) (by simp; omega) ?_; intro v3 w3 hown3 hgrow3 _; have HX3 : Hid (w3.ownsRow base 5 1 v3 (X ++ [ch]).length (bs (X ++ [ch]))) := owns_norm hown3 (bs_append _ _).symm; have hb3 : Below base w w3 := ((Below.refl _ _).alloc hB _).grown hgrow3 (by simp; omega) (fun q hq => (HO.out.lt q hq).1); clear hown3 hgrow3)
    go_ret
    exact ⟨_, rfl, by rw [HE.out]; have h := HX3.out; rw [List.length_append] at h; exact h, hb3⟩
end Go.Proofs.Qxb6602368aMods.Q
