import Derived.Test.Qxb6602368aModsTab
namespace Go.Proofs.Qxb6602368aMods.Tab
open Go.RowKit By Q

theorem own_reads {w : World} {base : Nat} {v : Value} {X : List UInt8} (h : w.ownsRow base 5 1 v X.length (bs X)) : ∃ ao cp, v = .slice ao X.length cp ∧ Reads w w.heap.size ao X := by
  have hc := h
  rcases h.2 with ⟨rfl, h2⟩ | ⟨g, cap, cur, rfl, hb, hg, hcap, _⟩
  · rw [h2]
    exact ⟨none, 0, rfl, fun h3 => absurd h3 (by omega)⟩
  · exact ⟨_, _, rfl, fun _ => ⟨g, 0, rfl, (hc.lt g rfl).2, fun j hj => by rw [Nat.zero_add, hc.cellAt j (by omega), bs_get X j hj]⟩⟩

set_option maxRecDepth 20000 in
theorem big (a : Option Addr) (n c : Nat) (s : ByteArray) (w : World) (hn : n ≤ maxLen) (hs : s.size ≤ maxLen) (hbig : 1048576 < n ∨ 1048576 < s.size ∨ 1048576 < n + s.size) :
    Calls Trym.prog 3 #[.slice a n c, .string s] w fun e w' => e = .returned (.bool true) ∧ Below w.heap.size w w' := by
  have HZ : Hid (Calls Trym.prog 9 #[.slice a n c, .string s] w fun e w' => AnyBool e ∧ w' = w) := zzb9 a n c s w hn hs
  unfold maxLen at hn hs
  go_enter Trym.func3, Trym.ntmps3
  go_wp2_with fail
  refine HZ.out.mono ?_
  rintro e w' ⟨⟨r, rfl⟩, rfl⟩
  cases r
  · go_wp2
    go_ret
    exact ⟨rfl, Below.refl _ _⟩
  · go_wp2_with fail
    all_goals first | (exfalso; omega) | (go_ret; exact ⟨rfl, Below.refl _ _⟩)

theorem esc_take_len (l : List UInt8) (k : Nat) : (esc (l.take k)).length ≤ 6 * l.length := by
  have h1 := esc_length (l.take k)
  have h2 : (l.take k).length ≤ l.length := by rw [List.length_take]; omega
  omega

set_option maxRecDepth 20000 in
set_option maxHeartbeats 4000000 in
theorem small (a : Option Addr) (n c : Nat) (L : List UInt8) (s : ByteArray) (w : World) (hL : L.length = n) (hn : n ≤ 1048576) (hs : s.size ≤ 1048576) (hsum : n + s.size ≤ 1048576) (hnil : a = none → n = 0) (hr : Reads w w.heap.size a L) :
    Calls Trym.prog 3 #[.slice a n c, .string s] w fun e w' => e = .returned (.bool true) ∧ Below w.heap.size w w' := by
  obtain ⟨i0, hi, hz0, hz1, hz2⟩ := info_parts info5
  have HZ : Hid (Calls Trym.prog 9 #[.slice a n c, .string s] w fun e w' => AnyBool e ∧ w' = w) := zzb9 a n c s w (by unfold maxLen; omega) (by unfold maxLen; omega)
  have HCL : Hid (Calls Trym.prog 10 #[.slice a n c] w fun e w' => ∃ ao, e = .returned (.slice ao n n) ∧ Cloned w w' ao n L) := clone a n c L w hL hn hnil hr
  have HL : Hid (L.length = n) := hL
  have HLL : Hid (s.data.toList.length = s.size) := by show s.data.toList.length = s.size; simp
  clear hr hnil hL
  go_enter Trym.func3, Trym.ntmps3
  go_wp2_with fail
  refine HZ.out.mono ?_
  rintro e w' ⟨⟨r, rfl⟩, rfl⟩
  clear HZ
  cases r
  · go_wp2
    go_ret
    exact ⟨rfl, Below.refl _ _⟩
  go_wp2_with fail
  refine HCL.out.mono ?_
  rintro e w1 ⟨ao, rfl, hcl⟩
  clear HCL
  have HB1 : Hid (Below w'.heap.size w' w1) := hcl.below
  have HR1 : Hid (Reads w1 w1.heap.size ao L) := hcl.reads
  have HNO : Hid (ao = none → n = 0 ∧ n = 0) := fun h => ⟨hcl.nil h, hcl.nil h⟩
  have HQ : Hid (Calls Trym.prog 11 #[.slice ao n n, .string s] w1 fun e w2 => ∃ v', e = .returned v' ∧ w2.ownsRow w1.heap.size 5 1 v' (L ++ quote s.data.toList).length (bs (L ++ quote s.data.toList)) ∧ Below w1.heap.size w1 w2) := quote_any ao n L s w1 HL.out hn hs hcl.nil hcl.reads
  clear hcl
  go_wp2_with fail
  refine HQ.out.mono ?_
  rintro e w2 ⟨v2, rfl, hown2, hb2⟩
  clear HQ
  obtain ⟨qs, HQS⟩ : ∃ qs, Hid (L ++ quote s.data.toList = qs) := ⟨_, rfl⟩
  obtain ⟨M, HM⟩ : ∃ M, Hid (qs.length = M) := ⟨_, rfl⟩
  have hM : M ≤ 16777216 := by
    rw [← HM.out, ← HQS.out, List.length_append, quote_length]
    have h1 := esc_length s.data.toList
    have h2 := HLL.out
    have h3 := HL.out
    omega
  rw [HQS.out] at hown2
  obtain ⟨ag, cg, rfl, hrg⟩ := own_reads hown2
  rw [HM.out]
  have HRG : Hid (Reads w2 w2.heap.size ag qs) := hrg
  have HR2 : Hid (Reads w2 w1.heap.size ao L) := HR1.out.below hb2 (Nat.le_refl _)
  have hs1 := HB1.out.size
  have hs2 := hb2.size
  have HB2 : Hid (Below w'.heap.size w' w2) := HB1.out.trans (hb2.mono hs1)
  clear hown2 hb2 HB1 HR1 hrg
  go_wp2_with (at_make; refine wpList_make_own _ rfl _ _ 22 rfl w2.heap.size 5 i0 (.int .u8 0) 1 Trym.underlying22 hi hz0 hz1 _ _ _ (n + 6 * s.size + 2) rfl rfl (by omega) (by rw [hz2]; omega) (by unfold maxLen; omega) (Nat.le_refl _) ?_)
  intro w3 hown3 hgrow3
  have HO3 : Hid (w3.ownsRow w2.heap.size 5 1 (.slice (some ⟨w2.heap.size, 0, none⟩) 0 (n + 6 * s.size + 2)) 0 []) := hown3
  have hb3 : Below w2.heap.size w2 w3 := (Below.refl _ _).grown hgrow3 (Nat.le_refl _) (by simp)
  have hs3 := hb3.size
  have HSRC : Hid (∀ ad, ao = some ad → ∀ j u, (bs L)[j]? = some u → w3.cell? (ad.add j) = some u) := fun ad h j u hj => by
    subst h
    exact src_of (HR2.out.below hb3 hs2) j u hj
  have HBL : Hid ((bs L).length = n * 1) := by show (bs L).length = n * 1; rw [bs_length, HL.out, Nat.mul_one]
  clear hown3 hgrow3
  go_wp2_with (first | (at_builtin; refine wpList_append_fits_any _ rfl (.tmp 39) (.tmp 40) 22 rfl w2.heap.size 5 i0 1 Trym.underlying22 hi hz1 w2.heap.size 0 (n + 6 * s.size + 2) [] rfl HO3.out ao n n (bs L) rfl HBL.out HNO.out HSRC.out (bs_one _) (by omega) ?_; intro w4 hown4 hgrow4; have HO4 : Hid (w4.ownsRow w2.heap.size 5 1 (.slice (some ⟨w2.heap.size, 0, none⟩) n (n + 6 * s.size + 2)) n (bs L)) := (by have h := hown4; rw [Nat.zero_add, List.nil_append] at h; exact h); have hb4 : Below w2.heap.size w2 w4 := hb3.grown hgrow4 (by omega) (fun q hq => by cases hq; exact Nat.le_refl _); have hs4 := hb4.size; clear hown4 hgrow4) | (at_builtin; refine wpList_append_own _ rfl (.tmp 42) (.tmp 43) 22 rfl w2.heap.size 5 i0 (.int .u8 0) 1 1 Trym.underlying22 hi hz0 hz1 hz2 rfl (by decide) _ _ _ rfl (HO4.out.alloc _) ⟨w4.heap.size, 0, none⟩ 1 1 (bs [34]) rfl rfl (cells_new _) (bs_one _) (by unfold maxLen; omega) (by omega) (by simp; omega) ?_; intro v5 w5 hown5 hgrow5 _; have HO5 : Hid (w5.ownsRow w2.heap.size 5 1 v5 (L ++ 34 :: esc (s.data.toList.take 0)).length (bs (L ++ 34 :: esc (s.data.toList.take 0)))) := owns_norm hown5 (bs_append _ _).symm; have hb5 : Below w2.heap.size w2 w5 := (hb4.alloc (by omega) _).grown hgrow5 (by simp; omega) (fun q hq => (HO4.out.lt q hq).1); clear hown5 hgrow5))
  clear HO3 hb3 hs3 HSRC HBL HO4 hb4 hs4 HNO HR2
  go_loopw [6, 7] (fun vv i wr => ∃ k : Nat, k ≤ s.size ∧ i = .int .i64 k ∧ Hid (wr.ownsRow w2.heap.size 5 1 vv (L ++ 34 :: esc (s.data.toList.take k)).length (bs (L ++ 34 :: esc (s.data.toList.take k)))) ∧ Below w2.heap.size w2 wr) (fun _ i _ => s.size - (intOf i).toNat)
  case atStart => exact ⟨0, Nat.zero_le _, rfl, HO5, hb5⟩
  case round =>
    obtain ⟨k, hk, rfl, HX, hbr⟩ := hrel
    clear HO5 hb5
    have hszr := hbr.size
    have hXl : (L ++ 34 :: esc (s.data.toList.take k)).length ≤ 16777216 - 6 := by
      have h1 := esc_take_len s.data.toList k
      have h2 := HLL.out
      have h3 := HL.out
      rw [List.length_append, List.length_cons]
      omega
    by_cases hlt : k < s.size
    · have HNX : Hid (L ++ 34 :: esc (s.data.toList.take (k + 1)) = (L ++ 34 :: esc (s.data.toList.take k)) ++ escB s[k]) := by
        show L ++ 34 :: esc (s.data.toList.take (k + 1)) = (L ++ 34 :: esc (s.data.toList.take k)) ++ escB s[k]
        rw [take_succ' (by rw [HLL.out]; exact hlt), getD_data s k hlt, esc_snoc, List.append_assoc, List.cons_append]
      obtain ⟨X, hXe⟩ : ∃ X, L ++ 34 :: esc (s.data.toList.take k) = X := ⟨_, rfl⟩
      rw [hXe] at HX hXl HNX
      clear hXe
      go_wp2_with fail
      refine (appendEsc w2.heap.size _ X s[k] _ (by omega) hszr HX.out).mono ?_
      rintro e w6 ⟨v6, rfl, hown6, hb6⟩
      have HX6 : Hid (w6.ownsRow w2.heap.size 5 1 v6 (L ++ 34 :: esc (s.data.toList.take (k + 1))).length (bs (L ++ 34 :: esc (s.data.toList.take (k + 1))))) := by rw [HNX.out]; exact hown6
      have HB6 : Hid (Below w2.heap.size w2 w6) := hbr.trans hb6
      clear hown6 hb6 HNX HX
      go_wp2
      go_roundw
      case rel => exact ⟨k + 1, by omega, by go_num, HX6, HB6.out⟩
      case measure => simp [intOf]; omega
    · have HEND : Hid ((L ++ 34 :: esc (s.data.toList.take k)) ++ [34] = qs) := by
        show (L ++ 34 :: esc (s.data.toList.take k)) ++ [34] = qs
        rw [List.take_of_length_le (by rw [HLL.out]; omega), ← HQS.out]
        simp [quote]
      obtain ⟨X, hXe⟩ : ∃ X, L ++ 34 :: esc (s.data.toList.take k) = X := ⟨_, rfl⟩
      rw [hXe] at HX hXl HEND
      clear hXe
      go_wp2_with (at_builtin; refine wpList_append_own _ rfl (.tmp 56) (.tmp 57) 22 rfl w2.heap.size 5 i0 (.int .u8 0) 1 1 Trym.underlying22 hi hz0 hz1 hz2 rfl (by decide) _ _ _ rfl (HX.out.alloc _) ⟨wr.heap.size, 0, none⟩ 1 1 (bs [34]) rfl rfl (cells_new _) (bs_one _) (by unfold maxLen; omega) (by omega) (by simp; omega) ?_; intro v7 w7 hown7 hgrow7 _)
      have hq7 : w7.ownsRow w2.heap.size 5 1 v7 qs.length (bs qs) := owns_norm hown7 (by rw [← HEND.out, bs_append])
      have hb7 : Below w2.heap.size w2 w7 := (hbr.alloc (by omega) _).grown hgrow7 (by simp; omega) (fun q hq => (HX.out.lt q hq).1)
      obtain ⟨a7, c7, rfl, hr7⟩ := own_reads hq7
      rw [HM.out]
      have hR1 : Reads w7 w2.heap.size ag qs := HRG.out.below hb7 (Nat.le_refl _)
      have HB7 : Hid (Below w'.heap.size w' w7) := HB2.out.trans (hb7.mono HB2.out.size)
      clear hown7 hgrow7 hq7 hb7
      refine (equal_same ag a7 M cg c7 _ _ qs w7 HM.out hM hR1 hr7).mono ?_
      rintro e w8 ⟨rfl, q, rfl⟩
      clear hR1 hr7
      go_wp2
      go_ret
      exact ⟨rfl, below_drewN HB7.out _⟩
end Go.Proofs.Qxb6602368aMods.Tab
