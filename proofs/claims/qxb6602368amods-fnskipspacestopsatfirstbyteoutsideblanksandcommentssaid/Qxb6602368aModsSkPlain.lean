/-
  THE PLAIN LAW OF skipSpace: no Go in sight.
-/
namespace Go.Proofs.Qxb6602368aMods.Sk

/-- Do two slashes stand at p? -/
def hasSS (l : List UInt8) (p : Nat) : Bool := decide (p + 2 ≤ l.length) && (l.getD p 0 == 47) && (l.getD (p + 1) 0 == 47)

/-- the law's own flag: open behind position i -/
def step (l : List UInt8) (o : Bool) (i : Nat) : Bool :=
  if l.getD i 0 = 10 then false else if (!o) = true ∧ hasSS l i = true then true else o

/-- the flag ahead of position off + t -/
def opn (l : List UInt8) (off : Nat) : Nat → Bool
  | 0 => false
  | t + 1 => step l (opn l off t) (off + t)

def cov (ic o : Bool) (c : UInt8) : Bool := o || c == 32 || c == 9 || c == 13 || (c == 10 && !ic)

structure Good (l : List UInt8) (off : Nat) (ic : Bool) (t : Nat) : Prop where
  le : off + t ≤ l.length
  all : ∀ i, i < t → cov ic (opn l off (i + 1)) (l.getD (off + i) 0) = true
  opn : opn l off t = true → off + t = l.length ∨ l.getD (off + t) 0 = 10

theorem good_start {l : List UInt8} {off : Nat} {ic : Bool} (h : off ≤ l.length) : Good l off ic 0 := ⟨h, fun i hi => absurd hi (by omega), fun h => by simp [Sk.opn] at h⟩

theorem all_succ {P : Nat → Prop} {t : Nat} (h : ∀ i, i < t → P i) (ht : P t) : ∀ i, i < t + 1 → P i := fun i hi => by
  by_cases e : i = t
  · subst e; exact ht
  · exact h i (by omega)

theorem Good.shut {l : List UInt8} {off : Nat} {ic : Bool} {t : Nat} (h : Good l off ic t) (hlt : off + t < l.length) (hc : l.getD (off + t) 0 ≠ 10) : Sk.opn l off t = false := by
  cases ho : Sk.opn l off t with
  | false => rfl
  | true => rcases h.opn ho with h1 | h1
            · omega
            · exact absurd h1 hc

theorem ss_47 {l : List UInt8} {p : Nat} (h : hasSS l p = true) : l.getD p 0 = 47 ∧ p + 2 ≤ l.length := by
  unfold hasSS at h
  simp only [Bool.and_eq_true, decide_eq_true_eq, beq_iff_eq] at h
  exact ⟨h.1.2, h.1.1⟩

/-- a byte that neither opens nor is a newline leaves the flag down -/
theorem next_shut {l : List UInt8} {off : Nat} {ic : Bool} {t : Nat} (h : Good l off ic t) (hlt : off + t < l.length) (hc : l.getD (off + t) 0 ≠ 10) (hs : hasSS l (off + t) = false) : Sk.opn l off (t + 1) = false := by
  rw [Sk.opn, h.shut hlt hc, step, if_neg hc, if_neg (by rw [hs]; simp)]

theorem not_ss {l : List UInt8} {p : Nat} (h : l.getD p 0 ≠ 47) : hasSS l p = false := by
  cases e : hasSS l p with
  | false => rfl
  | true => exact absurd (ss_47 e).1 h

theorem next_nl {l : List UInt8} {off t : Nat} (hc : l.getD (off + t) 0 = 10) : Sk.opn l off (t + 1) = false := by
  rw [Sk.opn, step, if_pos hc]

theorem good_blank {l : List UInt8} {off : Nat} {ic : Bool} {t : Nat} {c : UInt8} (h : Good l off ic t) (hlt : off + t < l.length) (hc : l.getD (off + t) 0 = c) (hb : c = 32 ∨ c = 9 ∨ c = 13) : Good l off ic (t + 1) := by
  have h10 : l.getD (off + t) 0 ≠ 10 := by rw [hc]; rcases hb with rfl | rfl | rfl <;> decide
  have h47 : l.getD (off + t) 0 ≠ 47 := by rw [hc]; rcases hb with rfl | rfl | rfl <;> decide
  have ho := next_shut h hlt h10 (not_ss h47)
  refine ⟨by omega, all_succ h.all ?_, fun e => by rw [ho] at e; cases e⟩
  rw [hc]
  unfold cov
  rcases hb with rfl | rfl | rfl <;> simp
theorem good_nl {l : List UInt8} {off t : Nat} (h : Good l off false t) (hlt : off + t < l.length) (hc : l.getD (off + t) 0 = 10) : Good l off false (t + 1) := by
  have ho := next_nl hc
  refine ⟨by omega, all_succ h.all ?_, fun e => by rw [ho] at e; cases e⟩
  rw [hc, ho]
  decide

/-- where it stops -/
structure Stop (l : List UInt8) (off : Nat) (ic : Bool) (t : Nat) : Prop where
  good : Good l off ic t
  stop : off + t = l.length ∨ (off + t < l.length ∧ cov ic (opn l off (t + 1)) (l.getD (off + t) 0) = false)

theorem stop_end {l : List UInt8} {off : Nat} {ic : Bool} {t : Nat} (h : Good l off ic t) (he : l.length ≤ off + t) : Stop l off ic t := ⟨h, .inl (by have := h.le; omega)⟩
theorem stop_nl {l : List UInt8} {off t : Nat} (h : Good l off true t) (hlt : off + t < l.length) (hc : l.getD (off + t) 0 = 10) : Stop l off true t := by
  refine ⟨h, .inr ⟨hlt, ?_⟩⟩
  rw [hc, next_nl hc]
  decide
theorem stop_other {l : List UInt8} {off : Nat} {ic : Bool} {t : Nat} (h : Good l off ic t) (hlt : off + t < l.length) (hs : hasSS l (off + t) = false)
    (h1 : l.getD (off + t) 0 ≠ 32) (h2 : l.getD (off + t) 0 ≠ 9) (h3 : l.getD (off + t) 0 ≠ 13) (h4 : l.getD (off + t) 0 ≠ 10) : Stop l off ic t := by
  refine ⟨h, .inr ⟨hlt, ?_⟩⟩
  rw [next_shut h hlt h4 hs]
  unfold cov
  simp only [Bool.false_or]
  rw [beq_eq_false_iff_ne.2 h1, beq_eq_false_iff_ne.2 h2, beq_eq_false_iff_ne.2 h3, beq_eq_false_iff_ne.2 h4]
  rfl

/-- inside a comment that begins at off + t0 -/
structure Inn (l : List UInt8) (off : Nat) (ic : Bool) (t0 t : Nat) : Prop where
  ge : t0 ≤ t
  le : off + t ≤ l.length
  ss : hasSS l (off + t0) = true
  all : ∀ i, i < t → cov ic (opn l off (i + 1)) (l.getD (off + i) 0) = true
  fl : (t = t0 ∧ opn l off t0 = false) ∨ (t0 < t ∧ opn l off t = true)

theorem inn_start {l : List UInt8} {off : Nat} {ic : Bool} {t : Nat} (h : Good l off ic t) (hs : hasSS l (off + t) = true) : Inn l off ic t t := by
  have h47 := ss_47 hs
  exact ⟨Nat.le_refl _, h.le, hs, h.all, .inl ⟨rfl, h.shut (by omega) (by rw [h47.1]; decide)⟩⟩
theorem inn_step {l : List UInt8} {off : Nat} {ic : Bool} {t0 t : Nat} (h : Inn l off ic t0 t) (hlt : off + t < l.length) (hc : l.getD (off + t) 0 ≠ 10) : Inn l off ic t0 (t + 1) := by
  have ho : Sk.opn l off (t + 1) = true := by
    rw [Sk.opn, step, if_neg hc]
    rcases h.fl with ⟨rfl, h1⟩ | ⟨_, h1⟩
    · rw [h1, if_pos ⟨rfl, h.ss⟩]
    · rw [h1, if_neg (by simp)]
  have hg := h.ge
  refine ⟨by omega, by omega, h.ss, all_succ h.all ?_, .inr ⟨by omega, ho⟩⟩
  rw [ho]
  rfl
theorem inn_end {l : List UInt8} {off : Nat} {ic : Bool} {t0 t : Nat} (h : Inn l off ic t0 t) (he : l.length ≤ off + t ∨ l.getD (off + t) 0 = 10) : Good l off ic t ∧ t0 < t := by
  have h47 := ss_47 h.ss
  have hle := h.le
  rcases h.fl with ⟨rfl, _⟩ | ⟨h1, _⟩
  · rcases he with he | he
    · omega
    · rw [h47.1] at he; cases he
  · refine ⟨⟨h.le, h.all, fun _ => ?_⟩, h1⟩
    rcases he with he | he
    · exact .inl (by omega)
    · exact .inr he
end Go.Proofs.Qxb6602368aMods.Sk
