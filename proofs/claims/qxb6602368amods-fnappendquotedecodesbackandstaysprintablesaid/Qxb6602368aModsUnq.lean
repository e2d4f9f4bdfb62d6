import Derived.Test.Qxb6602368aModsQuote
import Derived.Test.Qxb6602368aModsQPlain2
namespace Go.Proofs.Qxb6602368aMods.Q
open Go.RowKit By

theorem hexval (x d : Int) (w : World) (h : (0 ≤ d ∧ d ≤ 9 ∧ x = 48 + d) ∨ (10 ≤ d ∧ d ≤ 15 ∧ x = 87 + d)) :
    Calls Trym.prog 23 #[.int .u8 x] w fun e w' => e = .returned (.int .i64 d) ∧ w' = w := by
  rcases h with ⟨h0, h1, rfl⟩ | ⟨h0, h1, rfl⟩
  · go_enter Trym.func23, Trym.ntmps23
    go_wp2
    go_ret
    exact ⟨ret_int (by omega), rfl⟩
  · go_enter Trym.func23, Trym.ntmps23
    go_wp2
    go_ret
    exact ⟨ret_int (by omega), rfl⟩
theorem byte_lit {c d : UInt8} (h : c = d) : u8v c = .int .u8 d.toNat := by rw [h]; rfl

theorem last_at {w wr : World} {b off : Nat} {l : List UInt8} {p m : Nat} (hC : ∀ j, j < (quote l).length → w.cell? ⟨b, off + j, none⟩ = some (u8v ((quote l).getD j 0))) (hbr : Below w.heap.size w wr) (hb : b < w.heap.size)
    (hp : pos l m = p) (hm : m = l.length) : wr.cell? ⟨b, off + p, none⟩ = some (.int .u8 34) := by
  subst hm
  have h1 := pos_end l
  rw [hbr.cell (p := ⟨b, off + p, none⟩) hb, hC p (by omega), ← hp, quote_last]; rfl

/-- a one-byte text at the place p -/
theorem one {w wr : World} {b off : Nat} {l : List UInt8} {N p m : Nat} {c : UInt8} (hC : ∀ j, j < (quote l).length → w.cell? ⟨b, off + j, none⟩ = some (u8v ((quote l).getD j 0))) (hbr : Below w.heap.size w wr) (hb : b < w.heap.size)
    (hN : (quote l).length = N) (hp : pos l m = p) (hlt : m < l.length) (hc : l.getD m 0 = c) (hpl : plain (l.getD m 0)) :
    wr.cell? ⟨b, off + p, none⟩ = some (.int .u8 c.toNat) ∧ p + 2 ≤ N ∧ Hid (pos l (m + 1) = p + 1) ∧ Hid (bs (l.take m) ++ bs [c] = bs (l.take (m + 1))) := by
  have hr := pos_room hlt
  have hs := pos_succ hlt
  have hx := escB_plain hpl
  have q0 := quote_at (j := 0) hlt (by rw [hx]; simp)
  rw [hx] at hr hs q0
  rw [hp] at hr hs q0
  simp only [List.length_cons, List.length_nil] at hr hs
  refine ⟨?_, by omega, hs, ?_⟩
  · rw [hbr.cell (p := ⟨b, off + p, none⟩) hb, hC p (by omega)]
    simp only [Nat.add_zero] at q0
    rw [q0, ← hc]; rfl
  · show bs (l.take m) ++ bs [c] = bs (l.take (m + 1))
    rw [take_succ' hlt, hc, bs_append]

/-- a six-byte text at the place p -/
theorem six {w wr : World} {b off : Nat} {l : List UInt8} {N p m : Nat} {c h1 h2 : UInt8} (hC : ∀ j, j < (quote l).length → w.cell? ⟨b, off + j, none⟩ = some (u8v ((quote l).getD j 0))) (hbr : Below w.heap.size w wr) (hb : b < w.heap.size)
    (hN : (quote l).length = N) (hp : pos l m = p) (hlt : m < l.length) (hc : l.getD m 0 = c) (hx : escB c = [92, 117, 48, 48, h1, h2]) :
    wr.cell? ⟨b, off + p, none⟩ = some (.int .u8 92) ∧ wr.cell? ⟨b, off + (p + 1), none⟩ = some (.int .u8 117) ∧ wr.cell? ⟨b, off + (p + 2), none⟩ = some (.int .u8 48) ∧ wr.cell? ⟨b, off + (p + 3), none⟩ = some (.int .u8 48) ∧
      wr.cell? ⟨b, off + (p + 4), none⟩ = some (.int .u8 h1.toNat) ∧ wr.cell? ⟨b, off + (p + 5), none⟩ = some (.int .u8 h2.toNat) ∧ p + 7 ≤ N ∧ Hid (pos l (m + 1) = p + 6) ∧ Hid (bs (l.take m) ++ bs [c] = bs (l.take (m + 1))) := by
  have hr := pos_room hlt
  have hs := pos_succ hlt
  have q : ∀ j, j < 6 → (quote l).getD (pos l m + j) 0 = [92, 117, 48, 48, h1, h2].getD j 0 := fun j hj => by
    have := quote_at (j := j) hlt (by rw [hc, hx]; simpa using hj)
    rw [hc, hx] at this
    exact this
  rw [hc, hx] at hr hs
  rw [hp] at hr hs q
  simp only [List.length_cons, List.length_nil] at hr hs
  have get : ∀ j, j < 6 → wr.cell? ⟨b, off + (p + j), none⟩ = some (u8v ([92, 117, 48, 48, h1, h2].getD j 0)) := fun j hj => by
    rw [hbr.cell (p := ⟨b, off + (p + j), none⟩) hb, hC (p + j) (by omega), q j hj]
  refine ⟨get 0 (by omega), get 1 (by omega), get 2 (by omega), get 3 (by omega), get 4 (by omega), get 5 (by omega), by omega, hs, ?_⟩
  show bs (l.take m) ++ bs [c] = bs (l.take (m + 1))
  rw [take_succ' hlt, hc, bs_append]

theorem nib (c : UInt8) (h : c < 32) : ∃ D1 D2 : Int, 0 ≤ D1 ∧ D1 ≤ 1 ∧ 0 ≤ D2 ∧ D2 ≤ 15 ∧ D1 * 16 + D2 = (c.toNat : Int) ∧
    Hid ((0 ≤ D1 ∧ D1 ≤ 9 ∧ ((hexd (c / 16)).toNat : Int) = 48 + D1) ∨ (10 ≤ D1 ∧ D1 ≤ 15 ∧ ((hexd (c / 16)).toNat : Int) = 87 + D1)) ∧
    Hid ((0 ≤ D2 ∧ D2 ≤ 9 ∧ ((hexd (c % 16)).toNat : Int) = 48 + D2) ∨ (10 ≤ D2 ∧ D2 ≤ 15 ∧ ((hexd (c % 16)).toNat : Int) = 87 + D2)) := by
  have hc := UInt8.lt_iff_toNat_lt.1 h
  have e1 : (c / 16).toNat = c.toNat / 16 := by rw [UInt8.toNat_div]; rfl
  have e2 : (c % 16).toNat = c.toNat % 16 := by rw [UInt8.toNat_mod]; rfl
  have k1 := hexd_cases (div16 c)
  have k2 := hexd_cases (mod16 c)
  have hc' : c.toNat < 32 := by simpa using hc
  refine ⟨((c / 16).toNat : Int), ((c % 16).toNat : Int), by omega, by omega, by omega, by omega, by omega, ?_, ?_⟩
  · rcases k1 with ⟨a, b⟩ | ⟨a, b, d⟩
    · exact .inl ⟨by omega, by omega, by omega⟩
    · exact .inr ⟨by omega, by omega, by omega⟩
  · rcases k2 with ⟨a, b⟩ | ⟨a, b, d⟩
    · exact .inl ⟨by omega, by omega, by omega⟩
    · exact .inr ⟨by omega, by omega, by omega⟩

/-- a two-byte text at the place p -/
theorem two {w wr : World} {b off : Nat} {l : List UInt8} {N p m : Nat} {c x : UInt8} (hC : ∀ j, j < (quote l).length → w.cell? ⟨b, off + j, none⟩ = some (u8v ((quote l).getD j 0))) (hbr : Below w.heap.size w wr) (hb : b < w.heap.size)
    (hN : (quote l).length = N) (hp : pos l m = p) (_hm : m ≤ l.length) (hlt : m < l.length) (hc : l.getD m 0 = c) (hx : escB c = [92, x]) :
    wr.cell? ⟨b, off + p, none⟩ = some (.int .u8 92) ∧ wr.cell? ⟨b, off + (p + 1), none⟩ = some (.int .u8 x.toNat) ∧ p + 3 ≤ N ∧ Hid (pos l (m + 1) = p + 2) ∧ Hid (bs (l.take m) ++ bs [c] = bs (l.take (m + 1))) := by
  have hr := pos_room hlt
  have hs := pos_succ hlt
  have q0 := quote_at (j := 0) hlt (by rw [hc, hx]; simp)
  have q1 := quote_at (j := 1) hlt (by rw [hc, hx]; simp)
  rw [hc, hx] at hr hs q0 q1
  rw [hp] at hr hs q0 q1
  simp only [List.length_cons, List.length_nil] at hr hs
  refine ⟨?_, ?_, by omega, hs, ?_⟩
  · rw [hbr.cell (p := ⟨b, off + p, none⟩) hb, hC p (by omega)]
    simp only [Nat.add_zero] at q0
    rw [q0]; rfl
  · rw [hbr.cell (p := ⟨b, off + (p + 1), none⟩) hb, hC (p + 1) (by omega), q1]; rfl
  · show bs (l.take m) ++ bs [c] = bs (l.take (m + 1))
    rw [take_succ' hlt, hc, bs_append]

set_option maxRecDepth 20000 in
set_option maxHeartbeats 4000000 in
theorem unq (b off c N : Nat) (l : List UInt8) (w : World) (hl : l.length ≤ 1048576) (hb : b < w.heap.size) (hN : (quote l).length = N)
    (hC : ∀ j, j < (quote l).length → w.cell? ⟨b, off + j, none⟩ = some (u8v ((quote l).getD j 0))) :
    Calls Trym.prog 15 #[.slice (some ⟨b, off, none⟩) N c] w fun e w' => ∃ v, e = .returned (.tuple #[v, .bool true]) ∧ w'.ownsRow w.heap.size 5 1 v l.length (bs l) ∧ Below w.heap.size w w' := by
  obtain ⟨i0, hi, hz0, hz1, hz2⟩ := info_parts info5
  have HC : Hid (∀ j, j < (quote l).length → w.cell? ⟨b, off + j, none⟩ = some (u8v ((quote l).getD j 0))) := hC
  have hN2 : 2 ≤ N := by rw [← hN, quote_length]; omega
  have hN3 : N ≤ 6291458 := by rw [← hN, quote_length]; have := esc_length l; omega
  have c00 : w.cell? ⟨b, off, none⟩ = some (.int .u8 34) := by
    have h : w.cell? ⟨b, off, none⟩ = some (u8v 34) := by have := hC 0 (by omega); simpa [quote] using this
    exact h
  have HN : Hid ((quote l).length = N) := hN
  clear hC hN
  go_enter Trym.func15, Trym.ntmps15
  go_wp2_with (at_make; refine wpList_make_own _ rfl _ _ 22 rfl w.heap.size 5 i0 (.int .u8 0) 1 Trym.underlying22 hi hz0 hz1 _ _ _ N rfl rfl rfl (by rw [hz2]; omega) (by unfold maxLen; omega) (Nat.le_refl _) ?_)
  intro w1 hown1 hgrow1
  have HO1 : Hid (w1.ownsRow w.heap.size 5 1 (.slice (some ⟨w.heap.size, 0, none⟩) 0 N) (l.take 0).length (bs (l.take 0))) := owns_norm hown1 rfl
  have hb1 : Below w.heap.size w w1 := (Below.refl _ _).grown hgrow1 (Nat.le_refl _) (by simp)
  clear hown1 hgrow1 c00
  go_wp2
  go_loopw [4, 5] (fun vv i wr => ∃ (m p : Nat), m ≤ l.length ∧ i = .int .i64 p ∧ Hid (pos l m = p) ∧ p + 1 ≤ N ∧ Hid (wr.ownsRow w.heap.size 5 1 vv (l.take m).length (bs (l.take m))) ∧ Below w.heap.size w wr) (fun _ i _ => N - (intOf i).toNat)
  case atStart => exact ⟨0, 1, Nat.zero_le _, rfl, pos_zero l, by omega, HO1, hb1⟩
  case round =>
    obtain ⟨m, p, hm, rfl, HP, hpN, HX, hbr⟩ := hrel
    clear HO1 hb1
    have hszr := hbr.size
    have HPM : Hid (m ≤ l.length) := hm
    have htl : (l.take m).length ≤ 1048576 := by rw [List.length_take]; omega
    have HML : Hid ((l.take m).length + 1 ≤ maxLen) := by show (l.take m).length + 1 ≤ maxLen; unfold maxLen; omega
    by_cases hge : l.length ≤ m
    · have hml : m = l.length := by omega
      have cp : wr.cell? ⟨b, off + p, none⟩ = some (.int .u8 34) := last_at HC.out hbr hb HP.out hml
      have hpe : p + 1 = N := by have h1 := pos_end l; have h2 := HP.out; have h3 := HN.out; rw [hml] at h2; omega
      have hpe' : ((p : Int) == (N : Int) - 1) = true := by simp; omega
      have hplt : p < N := by omega
      have HFIN : Hid (wr.ownsRow w.heap.size 5 1 u4 l.length (bs l)) := by have h := HX.out; rw [hml, List.take_length] at h; exact h
      clear HX hpe HC hml hge
      go_wp2
      go_ret2
      exact ⟨_, rfl, HFIN.out, hbr⟩
    have hlt : m < l.length := by omega
    by_cases hpl : plain (l.getD m 0)
    · obtain ⟨ch, Hch⟩ : ∃ ch, Hid (l.getD m 0 = ch) := ⟨_, rfl⟩
      obtain ⟨c0, hroom, HPn, HTK⟩ := one HC.out hbr hb HN.out HP.out hlt Hch.out hpl
      rw [Hch.out] at hpl
      have hp2 : ((ch.toNat : Int) == 34) = false := ne_bool hpl.2.1
      have hp3 : ((ch.toNat : Int) != 92) = true := plain_ne2 hpl
      clear hpl HC
      go_wp2_with (at_builtin; refine wpList_append_own _ rfl (.tmp 40) (.tmp 42) 22 rfl w.heap.size 5 i0 (.int .u8 0) 1 1 Trym.underlying22 hi hz0 hz1 hz2 rfl (by decide) _ _ _ rfl (HX.out.alloc _) ⟨wr.heap.size, 0, none⟩ 1 1 (bs [ch]) rfl rfl (cells_new _) (bs_one _) HML.out (by omega) (by simp; omega) ?_; intro v3 w3 hown3 hgrow3 _; have HX3 : Hid (w3.ownsRow w.heap.size 5 1 v3 (l.take (m + 1)).length (bs (l.take (m + 1)))) := owns_norm hown3 HTK.out; have hb3 : Below w.heap.size w w3 := (hbr.alloc (by omega) _).grown hgrow3 (by simp; omega) (fun q hq => (HX.out.lt q hq).1); clear hown3 hgrow3)
      go_roundw
      case rel => exact ⟨m + 1, p + 1, by omega, by go_num, HPn, by omega, HX3, hb3⟩
      case measure => simp [intOf]; omega
    by_cases h34 : l.getD m 0 = 34
    · obtain ⟨c0, c1, hroom, HPn, HTK⟩ := two HC.out hbr hb HN.out HP.out HPM.out hlt h34 (x := 34) rfl
      clear h34 hpl HC
      go_wp2_with (at_builtin; refine wpList_append_own _ rfl (.tmp 60) (.tmp 62) 22 rfl w.heap.size 5 i0 (.int .u8 0) 1 1 Trym.underlying22 hi hz0 hz1 hz2 rfl (by decide) _ _ _ rfl (HX.out.alloc _) ⟨wr.heap.size, 0, none⟩ 1 1 (bs [34]) rfl rfl (cells_new _) (bs_one _) HML.out (by omega) (by simp; omega) ?_; intro v3 w3 hown3 hgrow3 _; have HX3 : Hid (w3.ownsRow w.heap.size 5 1 v3 (l.take (m + 1)).length (bs (l.take (m + 1)))) := owns_norm hown3 HTK.out; have hb3 : Below w.heap.size w w3 := (hbr.alloc (by omega) _).grown hgrow3 (by simp; omega) (fun q hq => (HX.out.lt q hq).1); clear hown3 hgrow3)
      go_roundw
      case rel => exact ⟨m + 1, p + 2, by omega, by go_num, HPn, by omega, HX3, hb3⟩
      case measure => simp [intOf]; omega
    by_cases h92 : l.getD m 0 = 92
    · obtain ⟨c0, c1, hroom, HPn, HTK⟩ := two HC.out hbr hb HN.out HP.out HPM.out hlt h92 (x := 92) rfl
      clear h92 hpl HC
      go_wp2_with (at_builtin; refine wpList_append_own _ rfl (.tmp 60) (.tmp 62) 22 rfl w.heap.size 5 i0 (.int .u8 0) 1 1 Trym.underlying22 hi hz0 hz1 hz2 rfl (by decide) _ _ _ rfl (HX.out.alloc _) ⟨wr.heap.size, 0, none⟩ 1 1 (bs [92]) rfl rfl (cells_new _) (bs_one _) HML.out (by omega) (by simp; omega) ?_; intro v3 w3 hown3 hgrow3 _; have HX3 : Hid (w3.ownsRow w.heap.size 5 1 v3 (l.take (m + 1)).length (bs (l.take (m + 1)))) := owns_norm hown3 HTK.out; have hb3 : Below w.heap.size w w3 := (hbr.alloc (by omega) _).grown hgrow3 (by simp; omega) (fun q hq => (HX.out.lt q hq).1); clear hown3 hgrow3)
      go_roundw
      case rel => exact ⟨m + 1, p + 2, by omega, by go_num, HPn, by omega, HX3, hb3⟩
      case measure => simp [intOf]; omega
    by_cases h10 : l.getD m 0 = 10
    · obtain ⟨c0, c1, hroom, HPn, HTK⟩ := two HC.out hbr hb HN.out HP.out HPM.out hlt h10 (x := 110) rfl
      clear h10 hpl HC
      go_wp2_with (at_builtin; refine wpList_append_own _ rfl (.tmp 66) (.tmp 67) 22 rfl w.heap.size 5 i0 (.int .u8 0) 1 1 Trym.underlying22 hi hz0 hz1 hz2 rfl (by decide) _ _ _ rfl (HX.out.alloc _) ⟨wr.heap.size, 0, none⟩ 1 1 (bs [10]) rfl rfl (cells_new _) (bs_one _) HML.out (by omega) (by simp; omega) ?_; intro v3 w3 hown3 hgrow3 _; have HX3 : Hid (w3.ownsRow w.heap.size 5 1 v3 (l.take (m + 1)).length (bs (l.take (m + 1)))) := owns_norm hown3 HTK.out; have hb3 : Below w.heap.size w w3 := (hbr.alloc (by omega) _).grown hgrow3 (by simp; omega) (fun q hq => (HX.out.lt q hq).1); clear hown3 hgrow3)
      go_roundw
      case rel => exact ⟨m + 1, p + 2, by omega, by go_num, HPn, by omega, HX3, hb3⟩
      case measure => simp [intOf]; omega
    by_cases h13 : l.getD m 0 = 13
    · obtain ⟨c0, c1, hroom, HPn, HTK⟩ := two HC.out hbr hb HN.out HP.out HPM.out hlt h13 (x := 114) rfl
      clear h13 hpl HC
      go_wp2_with (at_builtin; refine wpList_append_own _ rfl (.tmp 71) (.tmp 72) 22 rfl w.heap.size 5 i0 (.int .u8 0) 1 1 Trym.underlying22 hi hz0 hz1 hz2 rfl (by decide) _ _ _ rfl (HX.out.alloc _) ⟨wr.heap.size, 0, none⟩ 1 1 (bs [13]) rfl rfl (cells_new _) (bs_one _) HML.out (by omega) (by simp; omega) ?_; intro v3 w3 hown3 hgrow3 _; have HX3 : Hid (w3.ownsRow w.heap.size 5 1 v3 (l.take (m + 1)).length (bs (l.take (m + 1)))) := owns_norm hown3 HTK.out; have hb3 : Below w.heap.size w w3 := (hbr.alloc (by omega) _).grown hgrow3 (by simp; omega) (fun q hq => (HX.out.lt q hq).1); clear hown3 hgrow3)
      go_roundw
      case rel => exact ⟨m + 1, p + 2, by omega, by go_num, HPn, by omega, HX3, hb3⟩
      case measure => simp [intOf]; omega
    by_cases h9 : l.getD m 0 = 9
    · obtain ⟨c0, c1, hroom, HPn, HTK⟩ := two HC.out hbr hb HN.out HP.out HPM.out hlt h9 (x := 116) rfl
      clear h9 hpl HC
      go_wp2_with (at_builtin; refine wpList_append_own _ rfl (.tmp 76) (.tmp 77) 22 rfl w.heap.size 5 i0 (.int .u8 0) 1 1 Trym.underlying22 hi hz0 hz1 hz2 rfl (by decide) _ _ _ rfl (HX.out.alloc _) ⟨wr.heap.size, 0, none⟩ 1 1 (bs [9]) rfl rfl (cells_new _) (bs_one _) HML.out (by omega) (by simp; omega) ?_; intro v3 w3 hown3 hgrow3 _; have HX3 : Hid (w3.ownsRow w.heap.size 5 1 v3 (l.take (m + 1)).length (bs (l.take (m + 1)))) := owns_norm hown3 HTK.out; have hb3 : Below w.heap.size w w3 := (hbr.alloc (by omega) _).grown hgrow3 (by simp; omega) (fun q hq => (HX.out.lt q hq).1); clear hown3 hgrow3)
      go_roundw
      case rel => exact ⟨m + 1, p + 2, by omega, by go_num, HPn, by omega, HX3, hb3⟩
      case measure => simp [intOf]; omega
    by_cases h8 : l.getD m 0 = 8
    · obtain ⟨c0, c1, hroom, HPn, HTK⟩ := two HC.out hbr hb HN.out HP.out HPM.out hlt h8 (x := 98) rfl
      clear h8 hpl HC
      go_wp2_with (at_builtin; refine wpList_append_own _ rfl (.tmp 81) (.tmp 82) 22 rfl w.heap.size 5 i0 (.int .u8 0) 1 1 Trym.underlying22 hi hz0 hz1 hz2 rfl (by decide) _ _ _ rfl (HX.out.alloc _) ⟨wr.heap.size, 0, none⟩ 1 1 (bs [8]) rfl rfl (cells_new _) (bs_one _) HML.out (by omega) (by simp; omega) ?_; intro v3 w3 hown3 hgrow3 _; have HX3 : Hid (w3.ownsRow w.heap.size 5 1 v3 (l.take (m + 1)).length (bs (l.take (m + 1)))) := owns_norm hown3 HTK.out; have hb3 : Below w.heap.size w w3 := (hbr.alloc (by omega) _).grown hgrow3 (by simp; omega) (fun q hq => (HX.out.lt q hq).1); clear hown3 hgrow3)
      go_roundw
      case rel => exact ⟨m + 1, p + 2, by omega, by go_num, HPn, by omega, HX3, hb3⟩
      case measure => simp [intOf]; omega
    by_cases h12 : l.getD m 0 = 12
    · obtain ⟨c0, c1, hroom, HPn, HTK⟩ := two HC.out hbr hb HN.out HP.out HPM.out hlt h12 (x := 102) rfl
      clear h12 hpl HC
      go_wp2_with (at_builtin; refine wpList_append_own _ rfl (.tmp 86) (.tmp 87) 22 rfl w.heap.size 5 i0 (.int .u8 0) 1 1 Trym.underlying22 hi hz0 hz1 hz2 rfl (by decide) _ _ _ rfl (HX.out.alloc _) ⟨wr.heap.size, 0, none⟩ 1 1 (bs [12]) rfl rfl (cells_new _) (bs_one _) HML.out (by omega) (by simp; omega) ?_; intro v3 w3 hown3 hgrow3 _; have HX3 : Hid (w3.ownsRow w.heap.size 5 1 v3 (l.take (m + 1)).length (bs (l.take (m + 1)))) := owns_norm hown3 HTK.out; have hb3 : Below w.heap.size w w3 := (hbr.alloc (by omega) _).grown hgrow3 (by simp; omega) (fun q hq => (HX.out.lt q hq).1); clear hown3 hgrow3)
      go_roundw
      case rel => exact ⟨m + 1, p + 2, by omega, by go_num, HPn, by omega, HX3, hb3⟩
      case measure => simp [intOf]; omega
    obtain ⟨ch, Hch⟩ : ∃ ch, Hid (l.getD m 0 = ch) := ⟨_, rfl⟩
    rw [Hch.out] at hpl h34 h92 h10 h13 h9 h8 h12
    have hdef : ch < 32 := by
      rcases Nat.lt_or_ge ch.toNat 32 with h | h
      · exact UInt8.lt_iff_toNat_lt.2 h
      · exact absurd ⟨UInt8.le_iff_toNat_le.2 h, h34, h92⟩ hpl
    have HE : Hid (escB ch = [92, 117, 48, 48, hexd (ch / 16), hexd (ch % 16)]) := by
      show escB ch = [92, 117, 48, 48, hexd (ch / 16), hexd (ch % 16)]
      unfold escB
      rw [if_neg h34, if_neg h92, if_neg h10, if_neg h13, if_neg h9, if_neg h8, if_neg h12, if_pos hdef]
    obtain ⟨c0, c1, c2, c3, c4, c5, hroom, HPn, HTK⟩ := six HC.out hbr hb HN.out HP.out hlt Hch.out HE.out
    obtain ⟨D1, D2, hD1, hD1', hD2, hD2', hcomb, HD1, HD2⟩ := nib ch hdef
    have hch0 : 0 ≤ (ch.toNat : Int) := by omega
    have hch1 : (ch.toNat : Int) ≤ 255 := by omega
    clear hpl h34 h92 h10 h13 h9 h8 h12 hdef HE HC Hch
    generalize (hexd (ch / 16)).toNat = X1 at c4 HD1
    generalize (hexd (ch % 16)).toNat = X2 at c5 HD2
    have hp6 : (p : Int) + 6 ≤ (N : Int) := by omega
    go_wp2_with fail
    refine (hexval _ D1 _ HD1.out).mono ?_
    rintro e w9 ⟨rfl, hw9⟩
    subst hw9
    go_wp2_with fail
    refine (hexval _ D2 _ HD2.out).mono ?_
    rintro e w9 ⟨rfl, hw9⟩
    subst hw9
    go_wp2_with (at_builtin; refine wpList_append_own _ rfl (.tmp 134) (.tmp 140) 22 rfl w.heap.size 5 i0 (.int .u8 0) 1 1 Trym.underlying22 hi hz0 hz1 hz2 rfl (by decide) _ _ _ rfl (HX.out.alloc _) ⟨w9.heap.size, 0, none⟩ 1 1 (bs [ch]) rfl rfl (cells_new _) (bs_one _) HML.out (by omega) (by simp; omega) ?_; intro v3 w3 hown3 hgrow3 _; have HX3 : Hid (w3.ownsRow w.heap.size 5 1 v3 (l.take (m + 1)).length (bs (l.take (m + 1)))) := owns_norm hown3 HTK.out; have hb3 : Below w.heap.size w w3 := (hbr.alloc (by omega) _).grown hgrow3 (by simp; omega) (fun q hq => (HX.out.lt q hq).1); clear hown3 hgrow3)
    go_roundw
    case rel => exact ⟨m + 1, p + 6, by omega, by go_num, HPn, by omega, HX3, hb3⟩
    case measure => simp [intOf]; omega
end Go.Proofs.Qxb6602368aMods.Q
