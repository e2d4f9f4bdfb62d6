import Derived.Test.Qxb6602626aModsRows
import Derived.WalkKit
import Derived.WalkSpells
import Derived.WalkLawsBesides
import Derived.LoopTactic
namespace Go.Proofs.Qxb6602626aMods.Ss
open Go.RowKit

/-- THE SLICE VALUE (address a, length n) READS AS THE STRINGS ss 0 .. ss (n - 1), in blocks below B. -/
def Reads (w : World) (B : Nat) (a : Option Addr) (n : Nat) (ss : Nat → ByteArray) : Prop :=
  0 < n → ∃ b off, a = some ⟨b, off, none⟩ ∧ b < B ∧ ∀ j, j < n → w.cell? ⟨b, off + j, none⟩ = some (.string (ss j))

theorem Reads.below {w w' : World} {B B' : Nat} {a : Option Addr} {n : Nat} {ss : Nat → ByteArray} (h : Reads w B a n ss) (hb : Below B' w w') (hB : B ≤ B') : Reads w' B a n ss := fun hn => by
  obtain ⟨b, off, ha, hlt, hc⟩ := h hn
  exact ⟨b, off, ha, hlt, fun j hj => (hb.cell (p := ⟨b, off + j, none⟩) (by simp; omega)).trans (hc j hj)⟩

theorem Reads.mono {w : World} {B B' : Nat} {a : Option Addr} {n : Nat} {ss : Nat → ByteArray} (h : Reads w B a n ss) (hB : B ≤ B') : Reads w B' a n ss := fun hn => by
  obtain ⟨b, off, ha, hlt, hc⟩ := h hn
  exact ⟨b, off, ha, by omega, hc⟩

/-- zzBytesOfStrings: some number, not too large; the world stands. -/
theorem bytesOf (B : Nat) (a : Option Addr) (n c : Nat) (ss : Nat → ByteArray) (w : World) (hn : n ≤ 65536) (hr : Reads w B a n ss) (hs : ∀ j, j < n → (ss j).size ≤ maxLen) :
    Calls Trym.prog 10 #[.slice a n c] w fun e w' => ∃ t : Int, e = .returned (.int .i64 t) ∧ 0 ≤ t ∧ t ≤ 2097152 ∧ w' = w := by
  unfold maxLen at hs
  go_enter Trym.func10, Trym.ntmps10
  go_wp2
  go_loop [3, 4] (fun t i => ∃ k : Nat, ∃ x : Int, k ≤ n ∧ i = .int .i64 k ∧ t = .int .i64 x ∧ 0 ≤ x ∧ x ≤ 2097152) (fun _ i => n - (intOf i).toNat)
  case atStart => exact ⟨0, 16 * n, Nat.zero_le _, rfl, rfl, by omega, by omega⟩
  case round =>
    obtain ⟨k, x, hk, rfl, rfl, hx0, hx1⟩ := hrel
    by_cases hlt : k < n
    · obtain ⟨b, off, rfl, _, hc⟩ := hr (by omega)
      have hck := hc k hlt
      have hsk := hs k hlt
      generalize ss k = s at hck hsk
      clear hc hr hs
      have hsk0 : 0 ≤ (s.size : Int) := by omega
      go_wp2
      all_goals first
        | (go_ret; exact ⟨1048577, rfl, by omega, by omega, rfl⟩)
        | skip
      go_round
      case rel => exact ⟨k + 1, x + s.size, by omega, by go_num, rfl, by omega, by omega⟩
      case measure => simp [intOf]; omega
    · go_wp2
      go_ret
      exact ⟨x, rfl, by omega, by omega, rfl⟩

/-- Is there a j < k with p j? -/
def anyB (p : Nat → Bool) : Nat → Bool
  | 0 => false
  | k + 1 => anyB p k || p k

def appB (n : Nat) (g : Nat → Bool) : Bool := (n == 0) || anyB g n
theorem anyB_true {p : Nat → Bool} {k n : Nat} (h : k < n) (hp : p k = true) : anyB p n = true := by
  induction n with
  | zero => omega
  | succ n ih =>
    rw [anyB]
    by_cases e : k = n
    · subst e; rw [hp]; simp
    · rw [ih (by omega)]; rfl
theorem ret_bool {a b : Bool} (h : a = b) : Ending.returned (.bool a) = .returned (.bool b) := by rw [h]

/-- appliesTo: an empty list, or one of the strings is mapped to true. -/
theorem applies (nm : ByteArray) (m : Option Nat) (B : Nat) (a : Option Addr) (n c : Nat) (ss : Nat → ByteArray) (g : Nat → Bool) (w : World) (hn : n ≤ 65537) (hB : B ≤ w.heap.size) (hr : Reads w B a n ss)
    (hg : ∀ j, j < n → ∀ w', Below w.heap.size w w' → (Instr.lookup 27 (.map m) (.string (ss j)) false).run Trym.prog w' = .ok (.bool (g j)) w') :
    Calls Trym.prog 18 #[.agg #[.string nm, .slice a n c], .map m] w fun e w' => e = .returned (.bool (appB n g)) ∧ Below w.heap.size w w' := by
  have hb : ∀ o, Below w.heap.size w (w.alloc o) := fun o => (Below.refl _ _).alloc (Nat.le_refl _) o
  by_cases hz : n = 0
  · subst hz
    go_enter Trym.func18, Trym.ntmps18
    go_wp2
    go_ret
    exact ⟨rfl, hb _⟩
  · have hz' : ((n : Int) == 0) = false := by simpa using hz
    have hn0 : (n == 0) = false := by simpa using hz
    obtain ⟨b, off, rfl, hbB, hc⟩ := hr (by omega)
    clear hr
    go_enter Trym.func18, Trym.ntmps18
    go_wp2
    go_loop [14] (fun i => ∃ k : Nat, k ≤ n ∧ i = .int .i64 k ∧ anyB g k = false) (fun i => n - (intOf i).toNat)
    case atStart => exact ⟨0, Nat.zero_le _, rfl, rfl⟩
    case round =>
      obtain ⟨k, hk, rfl, ha⟩ := hrel
      have HA : Hid (anyB g k = false) := ha
      clear ha
      by_cases hlt : k < n
      · have hck := ((hb (.cells #[.string nm, .slice (some ⟨b, off, none⟩) n c] 37)).cell (p := ⟨b, off + k, none⟩) (by show b < _; omega)).trans (hc k hlt)
        have hgk := hg k hlt _ (hb (.cells #[.string nm, .slice (some ⟨b, off, none⟩) n c] 37))
        generalize ss k = s at hck hgk
        clear hc hg
        by_cases hgt : g k = true
        · rw [hgt] at hgk
          have HF : Hid (appB n g = true) := by show appB n g = true; unfold appB; rw [anyB_true hlt hgt]; simp
          clear hgt
          go_wp2
          go_ret
          exact ⟨ret_bool HF.out.symm, hb _⟩
        · have hgf : g k = false := by simpa using hgt
          rw [hgf] at hgk
          have HF : Hid (g k = false) := hgf
          clear hgf hgt
          go_wp2
          go_round
          case rel => exact ⟨k + 1, by omega, by go_num, by rw [anyB, HA.out, HF.out]; rfl⟩
          case measure => simp [intOf]; omega
      · clear hc hg
        have HF : Hid (appB n g = false) := by
          have hkn : k = n := by omega
          subst hkn
          show appB k g = false; unfold appB; rw [HA.out, hn0]; rfl
        go_wp2
        go_ret
        exact ⟨ret_bool HF.out.symm, hb _⟩

/-- ZZappliesTo hands on. -/
theorem zzapplies (nm : ByteArray) (m : Option Nat) (B : Nat) (a : Option Addr) (n c : Nat) (ss : Nat → ByteArray) (g : Nat → Bool) (w : World) (hn : n ≤ 65537) (hB : B ≤ w.heap.size) (hr : Reads w B a n ss)
    (hg : ∀ j, j < n → ∀ w', Below w.heap.size w w' → (Instr.lookup 27 (.map m) (.string (ss j)) false).run Trym.prog w' = .ok (.bool (g j)) w') :
    Calls Trym.prog 13 #[.string nm, .slice a n c, .map m] w fun e w' => e = .returned (.bool (appB n g)) ∧ Below w.heap.size w w' := by
  have H := applies nm m B a n c ss g w hn hB hr hg
  have HH : Hid (Calls Trym.prog 18 #[.agg #[.string nm, .slice a n c], .map m] w fun e w' => e = .returned (.bool (appB n g)) ∧ Below w.heap.size w w') := H
  clear H hg hr
  go_enter Trym.func13, Trym.ntmps13
  go_wp2_with fail
  refine HH.out.mono ?_
  rintro e w' ⟨rfl, hb⟩
  go_wp2
  go_ret
  exact ⟨rfl, hb⟩
end Go.Proofs.Qxb6602626aMods.Ss
