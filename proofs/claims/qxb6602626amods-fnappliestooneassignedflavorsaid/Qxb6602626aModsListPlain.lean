import Derived.Test.Qxb6602626aModsFill
namespace Go.Proofs.Qxb6602626aMods.Lst
open Go.RowKit Ss

/-- Is z among ss 0 .. ss (n - 1)? -/
def mem (ss : Nat → ByteArray) (n : Nat) (z : ByteArray) : Bool := anyB (fun j => decide (ss j = z)) n

theorem anyB_iff {p : Nat → Bool} {n : Nat} : anyB p n = true ↔ ∃ j, j < n ∧ p j = true := by
  constructor
  · induction n with
    | zero => intro h; simp [anyB] at h
    | succ n ih =>
      intro h
      rw [anyB, Bool.or_eq_true] at h
      rcases h with h | h
      · obtain ⟨j, hj, hp⟩ := ih h
        exact ⟨j, by omega, hp⟩
      · exact ⟨n, by omega, h⟩
  · rintro ⟨j, hj, hp⟩
    exact anyB_true hj hp

theorem mem_iff {ss : Nat → ByteArray} {n : Nat} {z : ByteArray} : mem ss n z = true ↔ ∃ j, j < n ∧ ss j = z := by
  unfold mem
  rw [anyB_iff]
  simp

def ext (ss : Nat → ByteArray) (n : Nat) (x : ByteArray) (j : Nat) : ByteArray := if j < n then ss j else x
def rev (ss : Nat → ByteArray) (n : Nat) (j : Nat) : ByteArray := ss (n - 1 - j)
def keep (ss : Nat → ByteArray) (x : ByteArray) : Nat → List ByteArray
  | 0 => []
  | k + 1 => if ss k = x then keep ss x k else keep ss x k ++ [ss k]

theorem keep_length (ss : Nat → ByteArray) (x : ByteArray) (k : Nat) : (keep ss x k).length ≤ k := by
  induction k with
  | zero => simp [keep]
  | succ k ih =>
    rw [keep]
    split
    · omega
    · rw [List.length_append, List.length_singleton]; omega

theorem mem_keep (ss : Nat → ByteArray) (x z : ByteArray) (k : Nat) : z ∈ keep ss x k ↔ z ≠ x ∧ ∃ j, j < k ∧ ss j = z := by
  induction k with
  | zero => simp [keep]
  | succ k ih =>
    have e : (∃ j, j < k + 1 ∧ ss j = z) ↔ (∃ j, j < k ∧ ss j = z) ∨ ss k = z := by
      constructor
      · rintro ⟨j, hj, h⟩
        by_cases e : j = k
        · exact .inr (e ▸ h)
        · exact .inl ⟨j, by omega, h⟩
      · rintro (⟨j, hj, h⟩ | h)
        · exact ⟨j, by omega, h⟩
        · exact ⟨k, by omega, h⟩
    rw [keep, e]
    split
    · rename_i hk
      rw [ih]
      constructor
      · rintro ⟨h1, h2⟩; exact ⟨h1, .inl h2⟩
      · rintro ⟨h1, h2 | h2⟩
        · exact ⟨h1, h2⟩
        · exact absurd (h2.symm.trans hk) h1
    · rename_i hk
      rw [List.mem_append, ih, List.mem_singleton]
      constructor
      · rintro (⟨h1, h2⟩ | h)
        · exact ⟨h1, .inl h2⟩
        · exact ⟨fun e => hk (h.symm.trans e), .inr h.symm⟩
      · rintro ⟨h1, h2 | h2⟩
        · exact .inl ⟨h1, h2⟩
        · exact .inr h2.symm

theorem bool_eq {a b : Bool} (h : a = true ↔ b = true) : a = b := Bool.eq_iff_iff.2 h

theorem mem_ext (ss : Nat → ByteArray) (n : Nat) (x z : ByteArray) : mem (ext ss n x) (n + 1) z = (mem ss n z || decide (x = z)) := by
  apply bool_eq
  rw [Bool.or_eq_true, mem_iff, mem_iff, decide_eq_true_eq]
  constructor
  · rintro ⟨j, hj, h⟩
    unfold ext at h
    split at h
    · exact .inl ⟨j, by assumption, h⟩
    · exact .inr h
  · rintro (⟨j, hj, h⟩ | h)
    · exact ⟨j, by omega, by unfold ext; rw [if_pos hj]; exact h⟩
    · exact ⟨n, by omega, by unfold ext; rw [if_neg (by omega)]; exact h⟩

theorem mem_rev (ss : Nat → ByteArray) (n : Nat) (z : ByteArray) : mem (rev ss n) n z = mem ss n z := by
  apply bool_eq
  rw [mem_iff, mem_iff]
  constructor
  · rintro ⟨j, hj, h⟩
    exact ⟨n - 1 - j, by omega, h⟩
  · rintro ⟨j, hj, h⟩
    exact ⟨n - 1 - j, by omega, by unfold rev; rw [show n - 1 - (n - 1 - j) = j by omega]; exact h⟩

def kept (ss : Nat → ByteArray) (x : ByteArray) (n j : Nat) : ByteArray := (keep ss x n).getD j ByteArray.empty

theorem mem_kept (ss : Nat → ByteArray) (n : Nat) (x z : ByteArray) : mem (kept ss x n) (keep ss x n).length z = (mem ss n z && !decide (z = x)) := by
  apply bool_eq
  rw [Bool.and_eq_true, mem_iff, mem_iff, Bool.not_eq_true', decide_eq_false_iff_not]
  have hk := mem_keep ss x z n
  constructor
  · rintro ⟨j, hj, h⟩
    have : z ∈ keep ss x n := by
      rw [← h]; unfold kept
      rw [List.getD_eq_getElem?_getD, List.getElem?_eq_getElem hj]
      exact List.getElem_mem hj
    have := hk.1 this
    exact ⟨this.2, this.1⟩
  · rintro ⟨h1, h2⟩
    obtain ⟨j, hj, e⟩ := List.getElem_of_mem (hk.2 ⟨h2, h1⟩)
    refine ⟨j, hj, ?_⟩
    unfold kept
    rw [List.getD_eq_getElem?_getD, List.getElem?_eq_getElem hj]
    exact e
end Go.Proofs.Qxb6602626aMods.Lst
