import Derived.Test.Qxb6602626aModsBkWalk
import Derived.Test.Qxb6602626aModsSpPlain
namespace Go.Proofs.Qxb6602626aMods.Bk
open Go.RowKit

theorem satMul (x y c : Int) (w : World) (h0 : 0 ≤ x * y) (h1 : x * y ≤ 4611686018427387904) :
    Calls Trym.prog 19 #[.int .i64 x, .int .i64 y, .int .i64 c] w fun e w' => e = .returned (.int .i64 (sat c (x * y))) ∧ w' = w := by
  have hw : wrap64 (x * y) = x * y := wrap64_id h0 (by omega)
  by_cases h : c < x * y
  · have HS : Hid (sat c (x * y) = c) := sat_of_ge (by omega)
    go_enter Trym.func19, Trym.ntmps19
    go_wp2
    go_ret
    exact ⟨ret_int HS.out.symm, rfl⟩
  · have HS : Hid (sat c (x * y) = x * y) := sat_of_le (by omega)
    go_enter Trym.func19, Trym.ntmps19
    go_wp2
    go_ret
    exact ⟨ret_int HS.out.symm, rfl⟩

set_option maxHeartbeats 400000 in
theorem satPow (b e c : Int) (w : World) (hb : 1 ≤ b) (he : 0 ≤ e) (he1 : e ≤ 2147483648) (hc : 1 ≤ c) (hc1 : c ≤ 2147483648) :
    Calls Trym.prog 15 #[.int .i64 b, .int .i64 e, .int .i64 c] w fun en w' => en = .returned (.int .i64 (sat c (pw 1 b e.toNat))) ∧ w' = w := by
  obtain ⟨b0, Hb0⟩ : ∃ x, Hid (sat c b = x) := ⟨_, rfl⟩
  have h01 : 1 ≤ b0 := by rw [← Hb0.out]; exact sat_pos hc hb
  have h02 : b0 ≤ c := by rw [← Hb0.out]; exact sat_le _ _
  have HP : Hid (sat c (pw 1 b0 e.toNat) = sat c (pw 1 b e.toNat)) := by
    show sat c (pw 1 b0 e.toNat) = sat c (pw 1 b e.toNat)
    rw [← Hb0.out]; exact sat_pw_base hc (by omega) hb _
  generalize sat c (pw 1 b e.toNat) = R at HP
  by_cases hbc : c < b
  · have HE : Hid (b0 = c) := by show b0 = c; rw [← Hb0.out]; exact sat_of_ge (by omega)
    go_enter Trym.func15, Trym.ntmps15
    go_wp2
    go_loop [0, 1, 7] (fun bb ee pp => ∃ (k : Nat) (x y : Int), bb = .int .i64 x ∧ ee = .int .i64 k ∧ pp = .int .i64 y ∧ k ≤ 2147483648 ∧ 1 ≤ x ∧ x ≤ c ∧ 1 ≤ y ∧ y ≤ c ∧ Hid (sat c (pw y x k) = R)) (fun _ ee _ => (intOf ee).toNat)
    case atStart => exact ⟨e.toNat, c, 1, rfl, by rw [Int.toNat_of_nonneg he], rfl, by omega, by omega, by omega, by omega, by omega, by have h := HP.out; rw [HE.out] at h; exact h⟩
    case round =>
      clear HP HE Hb0
      obtain ⟨k, x, y, rfl, rfl, rfl, hk, hx, hx1, hy, hy1, HK⟩ := hrel
      by_cases hk0 : k = 0
      · have HR : Hid (y = R) := by
          show y = R
          rw [← HK.out, hk0, pw_zero, sat_of_le hy1]
        have hk0' : ¬ 0 < k := by omega
        clear hk0
        go_wp2
        go_ret
        exact ⟨ret_int HR.out, rfl⟩
      · have hkp : 0 < k := by omega
        have hm1 := mul_le_c (a := y) (b := x) hy1 (by omega) hx1 hc1
        have hm2 := mul_le_c (a := x) (b := x) hx1 (by omega) hx1 hc1
        have hn1 := mul_pos hy hx
        have hn2 := mul_pos hx hx
        clear hk0
        by_cases hodd : k % 2 = 1
        · have ho : ((k : Int) % 2 == 1) = true := by simp; omega
          by_cases hm : k / 2 = 0
          · have hz : ¬ (0 : Int) < (k : Int) / 2 := by omega
            have HR : Hid (sat c (pw (sat c (y * x)) x (k / 2)) = R) := by
              have e1 : k = 1 := by omega
              have h := HK.out
              show sat c (pw (sat c (y * x)) x (k / 2)) = R
              rw [hm, round_last]; rw [e1] at h; exact h
            clear hodd hm
            go_wp2_with fail
            refine (satMul _ _ _ _ (by omega) (by omega)).mono ?_
            rintro e w' ⟨rfl, rfl⟩
            go_wp2
            go_round
            case rel => exact ⟨k / 2, x, sat c (y * x), rfl, by go_num, rfl, by omega, hx, hx1, sat_pos hc hn1, sat_le _ _, HR⟩
            case measure => simp [intOf]; omega
          · have hz : (0 : Int) < (k : Int) / 2 := by omega
            have HR : Hid (sat c (pw (sat c (y * x)) (sat c (x * x)) (k / 2)) = R) := by
              have e1 : k = 2 * (k / 2) + 1 := by omega
              show sat c (pw (sat c (y * x)) (sat c (x * x)) (k / 2)) = R
              rw [round_odd hc hy hx, ← e1]; exact HK.out
            clear hodd hm
            go_wp2_with fail
            refine (satMul _ _ _ _ (by omega) (by omega)).mono ?_
            rintro e w' ⟨rfl, rfl⟩
            go_wp2_with fail
            refine (satMul _ _ _ _ (by omega) (by omega)).mono ?_
            rintro e w' ⟨rfl, rfl⟩
            go_wp2
            go_round
            case rel => exact ⟨k / 2, sat c (x * x), sat c (y * x), rfl, by go_num, rfl, by omega, sat_pos hc hn2, sat_le _ _, sat_pos hc hn1, sat_le _ _, HR⟩
            case measure => simp [intOf]; omega
        · have ho : ((k : Int) % 2 == 1) = false := by simp; omega
          have hz : (0 : Int) < (k : Int) / 2 := by omega
          have HR : Hid (sat c (pw y (sat c (x * x)) (k / 2)) = R) := by
            have e1 : k = 2 * (k / 2) := by omega
            show sat c (pw y (sat c (x * x)) (k / 2)) = R
            rw [round_even hc hy hx, ← e1]; exact HK.out
          clear hodd
          go_wp2_with fail
          refine (satMul _ _ _ _ (by omega) (by omega)).mono ?_
          rintro e w' ⟨rfl, rfl⟩
          go_wp2
          go_round
          case rel => exact ⟨k / 2, sat c (x * x), y, rfl, by go_num, rfl, by omega, sat_pos hc hn2, sat_le _ _, hy, hy1, HR⟩
          case measure => simp [intOf]; omega
  · have HE : Hid (b0 = b) := by show b0 = b; rw [← Hb0.out]; exact sat_of_le (by omega)
    go_enter Trym.func15, Trym.ntmps15
    go_wp2
    go_loop [0, 1, 7] (fun bb ee pp => ∃ (k : Nat) (x y : Int), bb = .int .i64 x ∧ ee = .int .i64 k ∧ pp = .int .i64 y ∧ k ≤ 2147483648 ∧ 1 ≤ x ∧ x ≤ c ∧ 1 ≤ y ∧ y ≤ c ∧ Hid (sat c (pw y x k) = R)) (fun _ ee _ => (intOf ee).toNat)
    case atStart => exact ⟨e.toNat, b, 1, rfl, by rw [Int.toNat_of_nonneg he], rfl, by omega, by omega, by omega, by omega, by omega, by have h := HP.out; rw [HE.out] at h; exact h⟩
    case round =>
      clear HP HE Hb0
      obtain ⟨k, x, y, rfl, rfl, rfl, hk, hx, hx1, hy, hy1, HK⟩ := hrel
      by_cases hk0 : k = 0
      · have HR : Hid (y = R) := by
          show y = R
          rw [← HK.out, hk0, pw_zero, sat_of_le hy1]
        have hk0' : ¬ 0 < k := by omega
        clear hk0
        go_wp2
        go_ret
        exact ⟨ret_int HR.out, rfl⟩
      · have hkp : 0 < k := by omega
        have hm1 := mul_le_c (a := y) (b := x) hy1 (by omega) hx1 hc1
        have hm2 := mul_le_c (a := x) (b := x) hx1 (by omega) hx1 hc1
        have hn1 := mul_pos hy hx
        have hn2 := mul_pos hx hx
        clear hk0
        by_cases hodd : k % 2 = 1
        · have ho : ((k : Int) % 2 == 1) = true := by simp; omega
          by_cases hm : k / 2 = 0
          · have hz : ¬ (0 : Int) < (k : Int) / 2 := by omega
            have HR : Hid (sat c (pw (sat c (y * x)) x (k / 2)) = R) := by
              have e1 : k = 1 := by omega
              have h := HK.out
              show sat c (pw (sat c (y * x)) x (k / 2)) = R
              rw [hm, round_last]; rw [e1] at h; exact h
            clear hodd hm
            go_wp2_with fail
            refine (satMul _ _ _ _ (by omega) (by omega)).mono ?_
            rintro e w' ⟨rfl, rfl⟩
            go_wp2
            go_round
            case rel => exact ⟨k / 2, x, sat c (y * x), rfl, by go_num, rfl, by omega, hx, hx1, sat_pos hc hn1, sat_le _ _, HR⟩
            case measure => simp [intOf]; omega
          · have hz : (0 : Int) < (k : Int) / 2 := by omega
            have HR : Hid (sat c (pw (sat c (y * x)) (sat c (x * x)) (k / 2)) = R) := by
              have e1 : k = 2 * (k / 2) + 1 := by omega
              show sat c (pw (sat c (y * x)) (sat c (x * x)) (k / 2)) = R
              rw [round_odd hc hy hx, ← e1]; exact HK.out
            clear hodd hm
            go_wp2_with fail
            refine (satMul _ _ _ _ (by omega) (by omega)).mono ?_
            rintro e w' ⟨rfl, rfl⟩
            go_wp2_with fail
            refine (satMul _ _ _ _ (by omega) (by omega)).mono ?_
            rintro e w' ⟨rfl, rfl⟩
            go_wp2
            go_round
            case rel => exact ⟨k / 2, sat c (x * x), sat c (y * x), rfl, by go_num, rfl, by omega, sat_pos hc hn2, sat_le _ _, sat_pos hc hn1, sat_le _ _, HR⟩
            case measure => simp [intOf]; omega
        · have ho : ((k : Int) % 2 == 1) = false := by simp; omega
          have hz : (0 : Int) < (k : Int) / 2 := by omega
          have HR : Hid (sat c (pw y (sat c (x * x)) (k / 2)) = R) := by
            have e1 : k = 2 * (k / 2) := by omega
            show sat c (pw y (sat c (x * x)) (k / 2)) = R
            rw [round_even hc hy hx, ← e1]; exact HK.out
          clear hodd
          go_wp2_with fail
          refine (satMul _ _ _ _ (by omega) (by omega)).mono ?_
          rintro e w' ⟨rfl, rfl⟩
          go_wp2
          go_round
          case rel => exact ⟨k / 2, sat c (x * x), y, rfl, by go_num, rfl, by omega, sat_pos hc hn2, sat_le _ _, hy, hy1, HR⟩
          case measure => simp [intOf]; omega

/-- the same, the result under a name -/
theorem satPowD {b e c R : Int} (w : World) (hb : 1 ≤ b) (he : 0 ≤ e) (he1 : e ≤ 2147483648) (hc : 1 ≤ c) (hc1 : c ≤ 2147483648) (hR : Hid (sat c (pw 1 b e.toNat) = R)) :
    Calls Trym.prog 15 #[.int .i64 b, .int .i64 e, .int .i64 c] w fun en w' => en = .returned (.int .i64 R) ∧ w' = w := by
  have h := satPow b e c w hb he he1 hc hc1
  rw [hR.out] at h
  exact h
end Go.Proofs.Qxb6602626aMods.Bk
