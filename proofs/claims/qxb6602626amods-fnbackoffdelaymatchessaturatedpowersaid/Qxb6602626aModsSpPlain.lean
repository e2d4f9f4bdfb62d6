/-
  THE PLAIN MATHEMATICS OF zzSatPow: no Go in sight.
-/
import Derived.Test.Qxb6602626aModsBkPlain
namespace Go.Proofs.Qxb6602626aMods.Bk

/-- min(x, c) -/
def sat (c x : Int) : Int := if c < x then c else x

theorem sat_le (c x : Int) : sat c x ≤ c := by unfold sat; split <;> omega
theorem sat_of_le {c x : Int} (h : x ≤ c) : sat c x = x := by unfold sat; rw [if_neg (by omega)]
theorem sat_of_ge {c x : Int} (h : c ≤ x) : sat c x = c := by unfold sat; split <;> omega
theorem sat_pos {c x : Int} (hc : 1 ≤ c) (hx : 1 ≤ x) : 1 ≤ sat c x := by unfold sat; split <;> omega

theorem pw_shift (p b : Int) (k : Nat) : pw p b (k + 1) = pw (p * b) b k := by
  induction k with
  | zero => rfl
  | succ k ih => rw [pw_succ, ih, pw_succ]

theorem pw_sq (p b : Int) (k : Nat) : pw p b (2 * k) = pw p (b * b) k := by
  induction k with
  | zero => rfl
  | succ k ih =>
    have e : 2 * (k + 1) = 2 * k + 1 + 1 := by omega
    rw [e, pw_succ, pw_succ, ih, pw_succ, Int.mul_assoc]

theorem pw_ge {p x : Int} (hp : 0 ≤ p) (hx : 1 ≤ x) (k : Nat) : p ≤ pw p x k := by
  have := pw_mono hp hx (Nat.zero_le k)
  rwa [pw_zero] at this

theorem sat_pw_acc {c p x : Int} (hc : 0 ≤ c) (hx : 1 ≤ x) (k : Nat) : sat c (pw (sat c p) x k) = sat c (pw p x k) := by
  by_cases h : p ≤ c
  · rw [sat_of_le h]
  · rw [sat_of_ge (x := p) (by omega)]
    have a := pw_ge (p := c) hc hx k
    have b := pw_ge (p := p) (by omega) hx k
    rw [sat_of_ge a, sat_of_ge (by omega)]

theorem sat_pw_base {c p x : Int} (hc : 1 ≤ c) (hp : 1 ≤ p) (hx : 1 ≤ x) (k : Nat) : sat c (pw p (sat c x) k) = sat c (pw p x k) := by
  by_cases h : x ≤ c
  · rw [sat_of_le h]
  · rw [sat_of_ge (x := x) (by omega)]
    cases k with
    | zero => rfl
    | succ k =>
      rw [pw_shift, pw_shift]
      have a1 : c ≤ p * c := by have := mul_ge (a := c) (f := p) (by omega) hp; rwa [Int.mul_comm] at this
      have a2 : x ≤ p * x := by have := mul_ge (a := x) (f := p) (by omega) hp; rwa [Int.mul_comm] at this
      have a := pw_ge (p := p * c) (x := c) (by omega) hc k
      have b := pw_ge (p := p * x) (x := x) (by omega) hx k
      rw [sat_of_ge (by omega), sat_of_ge (by omega)]

/-- one round of the squaring, e odd -/
theorem round_odd {c p b : Int} (hc : 1 ≤ c) (hp : 1 ≤ p) (hb : 1 ≤ b) (k : Nat) : sat c (pw (sat c (p * b)) (sat c (b * b)) k) = sat c (pw p b (2 * k + 1)) := by
  have hbb : 1 ≤ b * b := by have := mul_ge (a := b) (f := b) (by omega) hb; omega
  have hpb : 1 ≤ p * b := by have := mul_ge (a := p) (f := b) (by omega) hb; omega
  rw [sat_pw_base hc (sat_pos hc hpb) hbb, sat_pw_acc (by omega) hbb, pw_shift, pw_sq]
/-- .. e even -/
theorem round_even {c p b : Int} (hc : 1 ≤ c) (hp : 1 ≤ p) (hb : 1 ≤ b) (k : Nat) : sat c (pw p (sat c (b * b)) k) = sat c (pw p b (2 * k)) := by
  have hbb : 1 ≤ b * b := by have := mul_ge (a := b) (f := b) (by omega) hb; omega
  rw [sat_pw_base hc hp hbb, pw_sq]
/-- .. the last one -/
theorem round_last {c p b : Int} : sat c (pw (sat c (p * b)) b 0) = sat c (pw p b 1) := by
  rw [pw_zero, pw_succ, pw_zero]
  exact sat_of_le (sat_le _ _)

theorem mul_pos {a b : Int} (ha : 1 ≤ a) (hb : 1 ≤ b) : 1 ≤ a * b := by have := mul_ge (a := a) (f := b) (by omega) hb; omega

theorem mul_le_c {a b c : Int} (ha : a ≤ c) (hb0 : 0 ≤ b) (hb : b ≤ c) (hc : c ≤ 2147483648) : a * b ≤ 4611686018427387904 := by
  have h1 := Int.mul_le_mul_of_nonneg_right (show a ≤ 2147483648 by omega) hb0
  have h2 := Int.mul_le_mul_of_nonneg_left (show b ≤ 2147483648 by omega) (show (0 : Int) ≤ 2147483648 by omega)
  omega

theorem pw_mul (b f : Int) (n : Nat) : pw b f n = b * pw 1 f n := by
  induction n with
  | zero => rw [pw_zero, pw_zero]; omega
  | succ n ih => rw [pw_succ, pw_succ, ih, Int.mul_assoc]

/-- THE LAW: min(base * min(f^n, l + 1), l) = min(base * f^n, l). -/
theorem bo_sat {b f l : Int} (hb : 0 ≤ b) (hf : 1 ≤ f) (hl : 0 ≤ l) (n : Nat) :
    bo b f n l = if l < b * sat (l + 1) (pw 1 f n) then l else b * sat (l + 1) (pw 1 f n) := by
  unfold bo
  rw [pw_mul b f n]
  have h1 := pw_ge (p := 1) (by omega) hf n
  generalize pw 1 f n = F at h1
  by_cases h : F ≤ l + 1
  · rw [sat_of_le h]; split <;> split <;> omega
  · rw [sat_of_ge (by omega)]
    by_cases h0 : b = 0
    · subst h0; simp; omega
    · have a := mul_ge (a := F) (f := b) (by omega) (by omega)
      have c := mul_ge (a := l + 1) (f := b) (by omega) (by omega)
      rw [Int.mul_comm] at a c
      rw [if_neg (by omega), if_pos (by omega)]

theorem base_sat {b l f : Int} {n : Nat} (hb : 0 ≤ b) (hb1 : b ≤ 2147483647) (hl : 0 ≤ l) (hl1 : l ≤ 2147483647) (hf : 1 ≤ f) : 0 ≤ b * sat (l + 1) (pw 1 f n) ∧ b * sat (l + 1) (pw 1 f n) ≤ 4611686018427387904 := by
  have h1 := sat_pos (c := l + 1) (by omega) (pw_ge (p := 1) (by omega) hf n)
  have h2 := sat_le (l + 1) (pw 1 f n)
  exact ⟨Int.mul_nonneg hb (by omega), mul_le_c (c := 2147483648) (by omega) (by omega) (by omega) (by omega)⟩
end Go.Proofs.Qxb6602626aMods.Bk
