/-
  THE PLAIN TABLE OF AppendQuote: no Go in sight.
-/
namespace Go.Proofs.Qxb6602368aMods.Q

def hexd (d : UInt8) : UInt8 := if d < 10 then 48 + d else 87 + d

def escB (c : UInt8) : List UInt8 :=
  if c = 34 then [92, 34] else if c = 92 then [92, 92] else if c = 10 then [92, 110] else if c = 13 then [92, 114] else if c = 9 then [92, 116]
  else if c = 8 then [92, 98] else if c = 12 then [92, 102] else if c < 32 then [92, 117, 48, 48, hexd (c / 16), hexd (c % 16)] else [c]

def esc (l : List UInt8) : List UInt8 := l.flatMap escB

def plain (c : UInt8) : Prop := 32 ≤ c ∧ c ≠ 34 ∧ c ≠ 92

theorem esc_nil : esc [] = [] := rfl
theorem esc_snoc (l : List UInt8) (c : UInt8) : esc (l ++ [c]) = esc l ++ escB c := by simp [esc]
theorem escB_length (c : UInt8) : (escB c).length ≤ 6 := by
  unfold escB
  repeat (split; · simp)
  simp
theorem escB_pos (c : UInt8) : 1 ≤ (escB c).length := by
  unfold escB
  repeat (split; · simp)
  simp
theorem esc_length (l : List UInt8) : (esc l).length ≤ 6 * l.length := by
  induction l with
  | nil => simp [esc]
  | cons c l ih =>
    have : esc (c :: l) = escB c ++ esc l := by simp [esc]
    rw [this, List.length_append, List.length_cons]
    have := escB_length c
    omega

theorem escB_plain {c : UInt8} (h : plain c) : escB c = [c] := by
  obtain ⟨h1, h2, h3⟩ := h
  have h1' := UInt8.le_iff_toNat_le.1 h1
  unfold escB
  rw [if_neg h2, if_neg h3]
  rw [if_neg (by rintro rfl; simp at h1'), if_neg (by rintro rfl; simp at h1'), if_neg (by rintro rfl; simp at h1'), if_neg (by rintro rfl; simp at h1'), if_neg (by rintro rfl; simp at h1')]
  rw [if_neg (by rw [UInt8.lt_iff_toNat_lt]; simp at h1' ⊢; omega)]

def quote (l : List UInt8) : List UInt8 := 34 :: (esc l ++ [34])

/-- the loop: content X, what waits (from st on), all escaped so far -/
def Mid (L X l : List UInt8) (st k : Nat) : Prop := st ≤ k ∧ X ++ (l.take k).drop st = L ++ 34 :: esc (l.take k)

theorem mid_start (L l : List UInt8) : Mid L (L ++ [34]) l 0 0 := ⟨Nat.le_refl _, by simp [esc]⟩
theorem take_succ' {l : List UInt8} {k : Nat} (h : k < l.length) : l.take (k + 1) = l.take k ++ [l.getD k 0] := by
  rw [List.take_succ_eq_append_getElem h]; simp [h]
theorem mid_plain {L X l : List UInt8} {st k : Nat} (h : Mid L X l st k) (hk : k < l.length) (hp : plain (l.getD k 0)) : Mid L X l st (k + 1) := by
  obtain ⟨h1, h2⟩ := h
  refine ⟨by omega, ?_⟩
  rw [take_succ' hk, esc_snoc, escB_plain hp, List.drop_append_of_le_length (by simp; omega), ← List.append_assoc, h2]
  simp
theorem mid_esc {L X l : List UInt8} {st k : Nat} (h : Mid L X l st k) (hk : k < l.length) : Mid L (X ++ (l.take k).drop st ++ escB (l.getD k 0)) l (k + 1) (k + 1) := by
  obtain ⟨h1, h2⟩ := h
  refine ⟨Nat.le_refl _, ?_⟩
  rw [h2, take_succ' hk, esc_snoc, List.drop_of_length_le (by simp; omega)]
  simp
theorem mid_end {L X l : List UInt8} {st : Nat} (h : Mid L X l st l.length) : X ++ l.drop st ++ [34] = L ++ quote l := by
  obtain ⟨_, h2⟩ := h
  rw [List.take_length] at h2
  rw [h2]
  simp [quote]
theorem mid_length {L X l : List UInt8} {st k : Nat} (h : Mid L X l st k) (_hk : k ≤ l.length) : X.length + (k - st) ≤ L.length + 1 + 6 * l.length := by
  obtain ⟨h1, h2⟩ := h
  have := congrArg List.length h2
  have e := esc_length (l.take k)
  simp at this e
  omega
end Go.Proofs.Qxb6602368aMods.Q
