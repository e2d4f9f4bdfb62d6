/-
  MORE OF THE PLAIN TABLE: where each byte of the quoted text lies; that none is a control byte.
-/
import Derived.Test.Qxb6602368aModsQPlain
namespace Go.Proofs.Qxb6602368aMods.Q

theorem esc_append (l m : List UInt8) : esc (l ++ m) = esc l ++ esc m := by simp [esc]
theorem esc_split {l : List UInt8} {m : Nat} (h : m < l.length) : esc l = esc (l.take m) ++ (escB (l.getD m 0) ++ esc (l.drop (m + 1))) := by
  have e : l = l.take m ++ ([l.getD m 0] ++ l.drop (m + 1)) := by
    have h1 : l.take (m + 1) ++ l.drop (m + 1) = l := List.take_append_drop _ _
    rw [take_succ' h, List.append_assoc] at h1
    exact h1.symm
  have h2 := congrArg esc e
  rw [esc_append, esc_append] at h2
  have h3 : esc [l.getD m 0] = escB (l.getD m 0) := by simp [esc]
  rw [h3] at h2
  exact h2

/-- where the m-th byte's text begins -/
def pos (l : List UInt8) (m : Nat) : Nat := 1 + (esc (l.take m)).length

theorem pos_zero (l : List UInt8) : pos l 0 = 1 := by simp [pos, esc]
theorem pos_succ {l : List UInt8} {m : Nat} (h : m < l.length) : pos l (m + 1) = pos l m + (escB (l.getD m 0)).length := by
  unfold pos
  rw [take_succ' h, esc_snoc, List.length_append]; omega
theorem quote_length (l : List UInt8) : (quote l).length = 2 + (esc l).length := by simp [quote]; omega
theorem pos_end (l : List UInt8) : pos l l.length + 1 = (quote l).length := by rw [quote_length, pos, List.take_length]; omega
theorem quote_last (l : List UInt8) : (quote l).getD (pos l l.length) 0 = 34 := by
  unfold pos quote
  rw [List.take_length, Nat.add_comm 1]
  simp
theorem pos_room {l : List UInt8} {m : Nat} (h : m < l.length) : pos l m + (escB (l.getD m 0)).length + 1 ≤ (quote l).length := by
  rw [quote_length, esc_split h]
  unfold pos
  simp only [List.length_append]
  omega
theorem quote_at {l : List UInt8} {m j : Nat} (h : m < l.length) (hj : j < (escB (l.getD m 0)).length) : (quote l).getD (pos l m + j) 0 = (escB (l.getD m 0)).getD j 0 := by
  unfold quote pos
  rw [esc_split h]
  generalize l.getD m 0 = c at hj
  rw [show 1 + (esc (l.take m)).length + j = ((esc (l.take m)).length + j) + 1 by omega, List.getD_cons_succ]
  simp only [List.append_assoc, List.getD_eq_getElem?_getD]
  rw [List.getElem?_append_right (by omega), Nat.add_sub_cancel_left, List.getElem?_append_left hj]

theorem hexd_ge (d : UInt8) (h : d < 16) : 32 ≤ hexd d := by
  have hd := UInt8.lt_iff_toNat_lt.1 h
  have key : ∀ i : Fin 16, 32 ≤ hexd (UInt8.ofNat i.val) := by decide
  have := key ⟨d.toNat, by simpa using hd⟩
  rwa [UInt8.ofNat_toNat] at this
theorem mod16 (c : UInt8) : c % 16 < 16 := by
  rw [UInt8.lt_iff_toNat_lt, UInt8.toNat_mod]
  simp; omega
theorem div16 (c : UInt8) : c / 16 < 16 := by
  rw [UInt8.lt_iff_toNat_lt, UInt8.toNat_div]
  have := UInt8.toNat_lt c
  simp; omega
theorem escB_ge (c x : UInt8) (h : x ∈ escB c) : 32 ≤ x := by
  unfold escB at h
  split at h
  · simp at h; rcases h with rfl | rfl <;> decide
  split at h
  · simp at h; subst h; decide
  split at h
  · simp at h; rcases h with rfl | rfl <;> decide
  split at h
  · simp at h; rcases h with rfl | rfl <;> decide
  split at h
  · simp at h; rcases h with rfl | rfl <;> decide
  split at h
  · simp at h; rcases h with rfl | rfl <;> decide
  split at h
  · simp at h; rcases h with rfl | rfl <;> decide
  split at h
  · simp at h
    rcases h with rfl | rfl | rfl | rfl | rfl
    · decide
    · decide
    · decide
    · exact hexd_ge _ (div16 c)
    · exact hexd_ge _ (mod16 c)
  · rename_i h32
    simp at h
    subst h
    exact UInt8.not_lt.1 h32
theorem quote_ge (l : List UInt8) : ∀ x ∈ quote l, 32 ≤ x := by
  intro x hx
  simp only [quote, List.mem_cons, List.mem_append, esc, List.mem_flatMap] at hx
  rcases hx with rfl | ⟨c, _, h⟩ | rfl | h
  · decide
  · exact escB_ge c x h
  · decide
  · cases h
theorem quote_getD_ge (l : List UInt8) {j : Nat} (h : j < (quote l).length) : 32 ≤ ((quote l).getD j 0).toNat := by
  rw [List.getD_eq_getElem?_getD, List.getElem?_eq_getElem h]
  exact UInt8.le_iff_toNat_le.1 (quote_ge l _ (List.getElem_mem h))

theorem hexd_cases {d : UInt8} (h : d < 16) : (d.toNat ≤ 9 ∧ (hexd d).toNat = 48 + d.toNat) ∨ (10 ≤ d.toNat ∧ d.toNat ≤ 15 ∧ (hexd d).toNat = 87 + d.toNat) := by
  have hd := UInt8.lt_iff_toNat_lt.1 h
  have key : ∀ i : Fin 16, ((UInt8.ofNat i.val).toNat ≤ 9 ∧ (hexd (UInt8.ofNat i.val)).toNat = 48 + (UInt8.ofNat i.val).toNat) ∨ (10 ≤ (UInt8.ofNat i.val).toNat ∧ (UInt8.ofNat i.val).toNat ≤ 15 ∧ (hexd (UInt8.ofNat i.val)).toNat = 87 + (UInt8.ofNat i.val).toNat) := by decide
  have := key ⟨d.toNat, by simpa using hd⟩
  rwa [UInt8.ofNat_toNat] at this
end Go.Proofs.Qxb6602368aMods.Q
