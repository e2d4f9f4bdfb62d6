import Derived.Test.Qxb6602626aModsStrs
namespace Go.Proofs.Qxb6602626aMods.Ss
open Go.RowKit

/-- BLOCK B IS A ROW OF AT LEAST N CELLS OF THE CALL's OWN; where P says so cell j holds the string ss j. -/
def Fill (w : World) (B N : Nat) (P : Nat → Prop) (ss : Nat → ByteArray) : Prop :=
  B < w.heap.size ∧ (∀ j, j < N → (w.cell? ⟨B, j, none⟩).isSome = true ∧ w.frozen? ⟨B, j, none⟩ = false) ∧ ∀ j, j < N → P j → w.cell? ⟨B, j, none⟩ = some (.string (ss j))

theorem Fill.store {w : World} {B N i : Nat} {P P' : Nat → Prop} {ss : Nat → ByteArray} (h : Fill w B N P ss) (hi : i < N) (hP : ∀ j, P' j → j ≠ i → P j) :
    Fill (w.setCell ⟨B, i, none⟩ (.string (ss i))) B N P' ss := by
  obtain ⟨h1, h2, h3⟩ := h
  refine ⟨by simpa using h1, fun j hj => ⟨?_, by simpa using (h2 j hj).2⟩, fun j hj hp => ?_⟩
  · by_cases e : j = i
    · subst e
      obtain ⟨u, hu⟩ := Option.isSome_iff_exists.1 (h2 j hj).1
      rw [World.cell?_setCell_same _ _ _ hu]; rfl
    · rw [World.cell?_setCell_other _ ⟨B, i, none⟩ ⟨B, j, none⟩ _ (fun h => e (Addr.mk.inj h).2.1.symm)]; exact (h2 j hj).1
  · by_cases e : j = i
    · subst e
      obtain ⟨u, hu⟩ := Option.isSome_iff_exists.1 (h2 j hj).1
      exact World.cell?_setCell_same _ _ _ hu
    · rw [World.cell?_setCell_other _ ⟨B, i, none⟩ ⟨B, j, none⟩ _ (fun h => e (Addr.mk.inj h).2.1.symm)]; exact h3 j hj (hP j hp e)

theorem Fill.below {w w' : World} {B B' N : Nat} {P : Nat → Prop} {ss : Nat → ByteArray} (h : Fill w B N P ss) (hb : Below B' w w') (hB : B < B') : Fill w' B N P ss := by
  obtain ⟨h1, h2, h3⟩ := h
  have hs := hb.size
  refine ⟨by omega, fun j hj => ?_, fun j hj hp => ?_⟩
  · rw [hb.cell (p := ⟨B, j, none⟩) hB, hb.frozen (p := ⟨B, j, none⟩) hB]; exact h2 j hj
  · rw [hb.cell (p := ⟨B, j, none⟩) hB]; exact h3 j hj hp

theorem Fill.reads {w : World} {B N n : Nat} {P : Nat → Prop} {ss : Nat → ByteArray} (h : Fill w B N P ss) (hn : n ≤ N) (hP : ∀ j, j < n → P j) : Reads w (B + 1) (some ⟨B, 0, none⟩) n ss :=
  fun _ => ⟨B, 0, rfl, by omega, fun j hj => by rw [Nat.zero_add]; exact h.2.2 j (by omega) (hP j hj)⟩

theorem Fill.of_owns {w : World} {B base n cap : Nat} {xs : List Value} (ss : Nat → ByteArray) (h : w.ownsRow base 9 1 (.slice (some ⟨B, 0, none⟩) n cap) n xs) (hB : B < w.heap.size) : Fill w B n (fun _ => False) ss := by
  refine ⟨hB, fun j hj => ⟨?_, h.frozenAt j⟩, fun j _ hp => hp.elim⟩
  rw [h.cellAt j (by omega), List.getElem?_eq_getElem (by rw [h.1]; omega)]; rfl

theorem Fill.cong {w : World} {B N : Nat} {P P' : Nat → Prop} {ss ss' : Nat → ByteArray} (h : Fill w B N P ss) (hP : ∀ j, j < N → P' j → P j ∧ ss j = ss' j) : Fill w B N P' ss' :=
  ⟨h.1, h.2.1, fun j hj hp => by rw [← (hP j hj hp).2]; exact h.2.2 j hj (hP j hj hp).1⟩

/-- ZZappliesTo, its answer under a name. -/
theorem zzappliesD {nm : ByteArray} {m : Option Nat} {a : Option Addr} {n c : Nat} {x : Bool} (B : Nat) (ss : Nat → ByteArray) (g : Nat → Bool) (w : World) (hn : n ≤ 65537) (hB : B ≤ w.heap.size) (hr : Reads w B a n ss)
    (hg : ∀ j, j < n → ∀ w', Below w.heap.size w w' → (Instr.lookup 27 (.map m) (.string (ss j)) false).run Trym.prog w' = .ok (.bool (g j)) w') (hx : Hid (appB n g = x)) :
    Calls Trym.prog 13 #[.string nm, .slice a n c, .map m] w fun e w' => e = .returned (.bool x) ∧ Below w.heap.size w w' := by
  have h := zzapplies nm m B a n c ss g w hn hB hr hg
  rw [hx.out] at h
  exact h

theorem anyB_cong {p q : Nat → Bool} : ∀ {n : Nat}, (∀ j, j < n → p j = q j) → anyB p n = anyB q n
  | 0, _ => rfl
  | n + 1, h => by rw [anyB, anyB, anyB_cong (fun j hj => h j (by omega)), h n (by omega)]

theorem info9 : (Trym.prog.info? 9).map (fun i => (i.zero, i.size, i.bytes)) = some (some (.string ByteArray.empty), 1, 16) := by kernel_rfl
end Go.Proofs.Qxb6602626aMods.Ss
