/-
  THE PLAIN MATHEMATICS OF BackoffDelay: no Go in sight.
-/
namespace Go.Proofs.Qxb6602626aMods.Bk

def pw (b f : Int) : Nat → Int
  | 0 => b
  | k + 1 => pw b f k * f

/-- min(b * f^n, l) -/
def bo (b f : Int) (n : Nat) (l : Int) : Int := if pw b f n ≤ l then pw b f n else l

theorem pw_zero (b f : Int) : pw b f 0 = b := rfl
theorem pw_succ (b f : Int) (k : Nat) : pw b f (k + 1) = pw b f k * f := rfl

theorem pw_nonneg {b f : Int} (hb : 0 ≤ b) (hf : 1 ≤ f) (k : Nat) : 0 ≤ pw b f k := by
  induction k with
  | zero => exact hb
  | succ k ih => rw [pw_succ]; exact Int.mul_nonneg ih (by omega)

theorem mul_ge {a f : Int} (ha : 0 ≤ a) (hf : 1 ≤ f) : a ≤ a * f := by
  have := Int.mul_le_mul_of_nonneg_left hf ha
  omega

theorem pw_step {b f : Int} (hb : 0 ≤ b) (hf : 1 ≤ f) (k : Nat) : pw b f k ≤ pw b f (k + 1) := by
  rw [pw_succ]; exact mul_ge (pw_nonneg hb hf k) hf

theorem pw_mono {b f : Int} (hb : 0 ≤ b) (hf : 1 ≤ f) {k n : Nat} (h : k ≤ n) : pw b f k ≤ pw b f n := by
  induction n with
  | zero => have : k = 0 := by omega
            subst this; exact Int.le_refl _
  | succ n ih =>
    by_cases e : k = n + 1
    · subst e; exact Int.le_refl _
    · exact Int.le_trans (ih (by omega)) (pw_step hb hf n)

theorem pw_one (b : Int) (k : Nat) : pw b 1 k = b := by
  induction k with
  | zero => rfl
  | succ k ih => rw [pw_succ, ih]; omega

theorem pw_add (b f : Int) (k j : Nat) : pw b f (k + j) = pw (pw b f k) f j := by
  induction j with
  | zero => rfl
  | succ j ih => rw [← Nat.add_assoc, pw_succ, pw_succ, ih]

theorem pw_of_zero (f : Int) (k : Nat) : pw 0 f k = 0 := by
  induction k with
  | zero => rfl
  | succ k ih => rw [pw_succ, ih]; omega

/-- Where the loop stops, what it hands back is bo. -/
theorem bo_exit {b f l : Int} {n k : Nat} (hb : 0 ≤ b) (hf : 1 ≤ f) (hk : k ≤ n)
    (h : k = n ∨ f ≤ 1 ∨ pw b f k ≤ 0 ∨ l ≤ pw b f k) : (if pw b f k ≤ l then pw b f k else l) = bo b f n l := by
  unfold bo
  have hm := pw_mono hb hf hk
  have h0 := pw_nonneg hb hf k
  rcases h with h | h | h | h
  · subst h; rfl
  · have : f = 1 := by omega
    subst this; rw [pw_one, pw_one]
  · have e0 : pw b f k = 0 := by omega
    have : pw b f n = pw b f k := by
      have e : n = k + (n - k) := by omega
      rw [e, pw_add, e0, pw_of_zero]
    rw [this]
  · by_cases e : pw b f k ≤ l
    · have : pw b f k = l := by omega
      rw [if_pos e]
      by_cases e2 : pw b f n ≤ l
      · rw [if_pos e2]; omega
      · rw [if_neg e2]; exact this
    · rw [if_neg e, if_neg (by omega)]

theorem mul_lt_62 {d f l : Int} (h1 : d < l) (hl : l ≤ 2147483647) (f0 : 0 ≤ f) (f1 : f ≤ 2147483647) : d * f ≤ 4611686014132420609 := by
  have a := Int.mul_le_mul_of_nonneg_right (show d ≤ 2147483647 by omega) f0
  have b := Int.mul_le_mul_of_nonneg_left f1 (show (0 : Int) ≤ 2147483647 by omega)
  omega

theorem mul_le_62 {d f : Int} (h1 : d ≤ 2147483647) (f0 : 0 ≤ f) (f1 : f ≤ 2147483647) : d * f ≤ 4611686014132420609 := by
  have a := Int.mul_le_mul_of_nonneg_right h1 f0
  have b := Int.mul_le_mul_of_nonneg_left f1 (show (0 : Int) ≤ 2147483647 by omega)
  omega

theorem bo_le (b f l : Int) (n : Nat) : bo b f n l ≤ l := by unfold bo; split <;> omega
theorem bo_nonneg {b f l : Int} (hb : 0 ≤ b) (hf : 1 ≤ f) (hl : 0 ≤ l) (n : Nat) : 0 ≤ bo b f n l := by
  unfold bo; have := pw_nonneg hb hf n; split <;> omega
theorem bo_zero (b f l : Int) : bo b f 0 l = if l < b then l else b := by
  unfold bo; rw [pw_zero]; split <;> split <;> omega

/-- the law: each delay is min(previous * factor, limit) -/
theorem bo_succ {b f l : Int} (hb : 0 ≤ b) (hf : 1 ≤ f) (hl : 0 ≤ l) (n : Nat) :
    bo b f (n + 1) l = if l < bo b f n l * f then l else bo b f n l * f := by
  unfold bo
  have h1 := pw_step hb hf n
  have h2 := pw_succ b f n
  by_cases e : pw b f n ≤ l
  · rw [if_pos e, ← h2]; split <;> split <;> omega
  · rw [if_neg e, if_neg (by omega)]
    have := mul_ge hl hf
    split <;> omega
theorem bo_step {b f l : Int} (hb : 0 ≤ b) (hf : 1 ≤ f) (n : Nat) : bo b f n l ≤ bo b f (n + 1) l := by
  unfold bo
  have h1 := pw_step hb hf n
  split <;> split <;> omega
end Go.Proofs.Qxb6602626aMods.Bk
