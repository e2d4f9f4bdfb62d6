import Derived.Test.Qxb6602368aModsSkipWalk
namespace Go.Proofs.Qxb6602368aMods.Sk
open Go.RowKit By

/-- at or past the end it does not move -/
theorem skip_past (S : Nat) (ao : Option Addr) (n : Nat) (ic : Bool) (off : Nat) (w : World) (_hn : n ≤ 1048576) (hoff : n ≤ off) (_ho : off ≤ 9223372036854775807) (hsc : Sc w S ao n ic off) :
    Calls Trym.prog 25 #[.pointer (some ⟨S, 0, none⟩)] w fun e w' => e = .returned (.tuple #[]) ∧ ∃ q, w' = w.drewN q := by
  have k0 := hsc.c0
  have k2 := hsc.c2
  have hpi : decide ((off : Int) < (n : Int)) = false := decide_eq_false (by omega)
  clear hsc
  go_enter Trym.func25, Trym.ntmps25
  go_wp2
  refine wp_loop_rounds 1 ?_
  rw [rounds_succ]
  go_wp2
  go_quiet (fail)
  go_wp2
  go_end0
  exact ⟨rfl, _, rfl⟩

theorem sc_new (w : World) (ao : Option Addr) (n off : Nat) (ic : Bool) (a b c : Value) : Sc (w.alloc (.cells #[.slice ao n n, a, .int .i64 off, .bool ic, b, c] 40)) w.heap.size ao n ic off where
  c0 := by rw [World.cell?_alloc_new]; rfl
  c2 := by rw [World.cell?_alloc_new]; rfl
  c3 := by rw [World.cell?_alloc_new]; rfl
  f2 := by simp
  lt := by simp

/-- what ZZSkipSpace hands back -/
def Ends (l : List UInt8) (off : Nat) (ic : Bool) (n r : Nat) : Prop := (n ≤ off → r = off) ∧ (off < n → ∃ t, Stop l off ic t ∧ r = off + t)

theorem zzskip (ao : Option Addr) (n : Nat) (ic : Bool) (off : Nat) (l : List UInt8) (w : World) (hl : l.length = n) (hn : n ≤ 1048576) (ho : off ≤ 9223372036854775807) (hr : Reads w w.heap.size ao l) :
    Calls Trym.prog 19 #[.slice ao n n, .int .i64 off, .bool ic] w fun e w' => ∃ r : Nat, e = .returned (.int .i64 r) ∧ Ends l off ic n r ∧ Below w.heap.size w w' := by
  have HR : Hid (∀ o, Reads (w.alloc o) w.heap.size ao l) := fun o => hr.below ((Below.refl _ _).alloc (Nat.le_refl _) o) (Nat.le_refl _)
  have HL : Hid (l.length = n) := hl
  clear hr hl
  go_enter Trym.func19, Trym.ntmps19
  by_cases hlt : off < n
  · go_wp2_with fail
    refine (skip w.heap.size ao n ic off l _ HL.out hn (by omega) (sc_new w ao n off ic _ _ _) (HR.out _)).mono ?_
    rintro e w3 ⟨rfl, t, hst, hsc, hb3⟩
    obtain ⟨r, hre⟩ : ∃ r, off + t = r := ⟨_, rfl⟩
    rw [hre] at hsc
    have k2 := hsc.c2
    have HE : Hid (Ends l off ic n r) := ⟨fun h => absurd h (by omega), fun _ => ⟨t, hst, hre.symm⟩⟩
    have HB : Hid (Below w.heap.size w w3) := ((Below.refl _ _).alloc (Nat.le_refl _) _).trans hb3
    clear hst hsc hb3 hre
    go_wp2
    go_ret
    exact ⟨r, rfl, HE.out, HB.out⟩
  · have HSC := sc_new w ao n off ic (.string ⟨#[]⟩) (.int .i64 0) (.map none)
    have k2 := HSC.c2
    have HS : Hid (Sc (w.alloc (.cells #[.slice ao n n, .string ⟨#[]⟩, .int .i64 off, .bool ic, .int .i64 0, .map none] 40)) w.heap.size ao n ic off) := HSC
    clear HSC k2
    go_wp2_with fail
    refine (skip_past w.heap.size ao n ic off _ hn (by omega) ho HS.out).mono ?_
    rintro e w3 ⟨rfl, q, rfl⟩
    have k2 := (HS.out.drewN q).c2
    have HE : Hid (Ends l off ic n off) := ⟨fun _ => rfl, fun h => absurd h hlt⟩
    have HB : Hid (Below w.heap.size w ((w.alloc (.cells #[.slice ao n n, .string ⟨#[]⟩, .int .i64 off, .bool ic, .int .i64 0, .map none] 40)).drewN q)) := below_drewN ((Below.refl _ _).alloc (Nat.le_refl _) _) q
    go_wp2
    go_ret
    exact ⟨off, rfl, HE.out, HB.out⟩
end Go.Proofs.Qxb6602368aMods.Sk
