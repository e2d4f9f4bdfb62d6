import Derived.Test.Qxb6602368aModsBytes
import Derived.Deep.LoopGhost
import Derived.Laws.IdiomStrings
import Derived.Test.Qxb6602368aModsSkPlain
namespace Go.Proofs.Qxb6602368aMods.Sk
open Go.RowKit By

/-- the scanner's cells that are read -/
structure Sc (w : World) (S : Nat) (ao : Option Addr) (n : Nat) (ic : Bool) (p : Nat) : Prop where
  c0 : w.cell? ⟨S, 0, none⟩ = some (.slice ao n n)
  c2 : w.cell? ⟨S, 2, none⟩ = some (.int .i64 p)
  c3 : w.cell? ⟨S, 3, none⟩ = some (.bool ic)
  f2 : w.frozen? ⟨S, 2, none⟩ = false
  lt : S < w.heap.size

theorem Sc.drewN {w : World} {S : Nat} {ao : Option Addr} {n : Nat} {ic : Bool} {p : Nat} (h : Sc w S ao n ic p) (q : Nat) : Sc (w.drewN q) S ao n ic p := ⟨h.c0, h.c2, h.c3, h.f2, h.lt⟩

theorem Sc.step {w : World} {S : Nat} {ao : Option Addr} {n : Nat} {ic : Bool} {p p' : Nat} (h : Sc w S ao n ic p) : Sc (w.setCell ⟨S, 2, none⟩ (.int .i64 p')) S ao n ic p' where
  c0 := by rw [World.cell?_setCell_other _ ⟨S, 2, none⟩ ⟨S, 0, none⟩ _ (fun e => by cases e)]; exact h.c0
  c2 := World.cell?_setCell_same _ _ _ h.c2
  c3 := by rw [World.cell?_setCell_other _ ⟨S, 2, none⟩ ⟨S, 3, none⟩ _ (fun e => by cases e)]; exact h.c3
  f2 := by rw [World.frozen?_setCell]; exact h.f2
  lt := by simpa using h.lt

set_option maxHeartbeats 1000000 in
theorem hasPrefix (S : Nat) (ao : Option Addr) (n : Nat) (ic : Bool) (p : Nat) (l : List UInt8) (w : World) (hl : l.length = n) (hn : n ≤ 1048576) (hp : p < n) (hsc : Sc w S ao n ic p) (hr : Reads w S ao l) :
    Calls Trym.prog 27 #[.pointer (some ⟨S, 0, none⟩), .string ⟨#[47, 47]⟩] w fun e w' => e = .returned (.bool (hasSS l p)) ∧ ∃ q, w' = w.drewN q := by
  have c0 := hsc.c0
  have c2 := hsc.c2
  have HL : Hid (l.length = n) := hl
  obtain ⟨b, off, rfl, hbS, hcell⟩ := hr (by omega)
  have HC : Hid (∀ j, j < l.length → w.cell? ⟨b, off + j, none⟩ = some (u8v (l.getD j 0))) := hcell
  clear hcell hr hsc hl
  by_cases h2 : p + 2 ≤ n
  · have hg : (2 : Int) ≤ (n : Int) - (p : Int) := by omega
    obtain ⟨x, Hx⟩ : ∃ x, Hid (l.getD p 0 = x) := ⟨_, rfl⟩
    obtain ⟨y, Hy⟩ : ∃ y, Hid (l.getD (p + 1) 0 = y) := ⟨_, rfl⟩
    have hconv : ∀ q c, (convert 22 9 (.slice (some ⟨b, off + p, none⟩) 2 c)).run Trym.prog (w.drewN q) = .ok (.string ⟨#[x, y]⟩) (w.drewN q) := fun q c =>
      run_convert_bytes_back (w.drewN q) 22 9 5 ⟨b, off + p, none⟩ c [x, y] Trym.underlying22 Trym.underlying5 Trym.underlying9 (fun j hj => by
        rw [WideShapes.add_plain]
        have hlen := HL.out
        match j, hj with
        | 0, _ => have := HC.out p (by omega); rw [Hx.out] at this; exact this
        | 1, _ => have := HC.out (p + 1) (by omega); rw [Hy.out] at this; exact this)
    have hne : ¬ n = p := by omega
    have hw1 : IntKind.i64.wrap ((n : Int) - (p : Int)) = (n : Int) - (p : Int) := by rw [IntKind.wrap_i64]; omega
    have hw2 : IntKind.i64.wrap ((p : Int) + 2) = (p : Int) + 2 := by rw [IntKind.wrap_i64]; omega
    clear HC
    go_enter Trym.func27, Trym.ntmps27
    go_wp2
    go_quiet (fail)
    go_wp2
    go_ret
    exact ⟨ret_bool (by unfold hasSS; rw [Hx.out, Hy.out, HL.out, decide_eq_true h2]; rfl), _, rfl⟩
  · have hg : decide ((2 : Int) ≤ (n : Int) - (p : Int)) = false := decide_eq_false (by omega)
    have hw1 : IntKind.i64.wrap ((n : Int) - (p : Int)) = (n : Int) - (p : Int) := by rw [IntKind.wrap_i64]; omega
    clear HC
    go_enter Trym.func27, Trym.ntmps27
    go_wp2
    go_quiet (fail)
    go_wp2
    go_ret
    exact ⟨ret_bool (by unfold hasSS; rw [HL.out, decide_eq_false h2]; rfl), _, rfl⟩
end Go.Proofs.Qxb6602368aMods.Sk
