import Derived.Test.Qxb6602626aModsFill
namespace Go.Proofs.Qxb6602626aMods.Ss
open Go.RowKit

/-- It hands back some bool. -/
def AnyBool (e : Ending) : Prop := ∃ r : Bool, e = .returned (.bool r)
theorem AnyBool.mk (r : Bool) : AnyBool (.returned (.bool r)) := ⟨r, rfl⟩

/-- zzBytes_FnListedInsertEraseReverse: some answer; the world stands. -/
theorem zzbL (B : Nat) (a : Option Addr) (n c : Nat) (ss : Nat → ByteArray) (x y : ByteArray) (w : World) (hn : n ≤ maxLen) (hx : x.size ≤ maxLen) (hy : y.size ≤ maxLen) (hr : Reads w B a n ss) (hs : ∀ j, j < n → (ss j).size ≤ maxLen) :
    Calls Trym.prog 9 #[.slice a n c, .string x, .string y] w fun e w' => AnyBool e ∧ w' = w := by
  unfold maxLen at hn hx hy hs
  by_cases hbig : 1048576 < n
  · clear hr hs
    go_enter Trym.func9, Trym.ntmps9
    go_wp2
    go_ret
    exact ⟨AnyBool.mk false, rfl⟩
  go_enter Trym.func9, Trym.ntmps9
  go_wp2
  go_loop [7, 8] (fun t i => ∃ (k : Nat) (z : Int), k ≤ n ∧ i = .int .i64 k ∧ t = .int .i64 z ∧ 0 ≤ z ∧ z ≤ 1048576) (fun _ i => n - (intOf i).toNat)
  case atStart => exact ⟨0, n, Nat.zero_le _, rfl, rfl, by omega, by omega⟩
  case round =>
    obtain ⟨k, z, hk, rfl, rfl, hz0, hz1⟩ := hrel
    by_cases hlt : k < n
    · obtain ⟨b, off, rfl, _, hc⟩ := hr (by omega)
      have hck := hc k hlt
      have hsk := hs k hlt
      generalize ss k = s at hck hsk
      clear hc hr hs
      go_wp2
      all_goals first
        | (go_ret; first | exact ⟨AnyBool.mk false, rfl⟩ | exact ⟨AnyBool.mk true, rfl⟩)
        | skip
      go_round
      case rel => exact ⟨k + 1, z + s.size, by omega, by go_num, rfl, by omega, by omega⟩
      case measure => simp [intOf]; omega
    · clear hr hs
      go_wp2
      all_goals (go_ret; first | exact ⟨AnyBool.mk false, rfl⟩ | exact ⟨AnyBool.mk true, rfl⟩)

/-- zzBytes_FnAppliesToOneAssignedFlavor: the like. -/
theorem zzbA (B : Nat) (a : Option Addr) (n c : Nat) (ss : Nat → ByteArray) (x y : ByteArray) (w : World) (hn : n ≤ maxLen) (hx : x.size ≤ maxLen) (hy : y.size ≤ maxLen) (hr : Reads w B a n ss) (hs : ∀ j, j < n → (ss j).size ≤ maxLen) :
    Calls Trym.prog 14 #[.string x, .slice a n c, .string y] w fun e w' => AnyBool e ∧ w' = w := by
  unfold maxLen at hn hx hy hs
  by_cases hbig : 1048576 < x.size ∨ 1048576 < x.size + n
  · clear hr hs
    go_enter Trym.func14, Trym.ntmps14
    go_wp2_with fail
    all_goals first | (exfalso; omega) | (go_ret; first | exact ⟨AnyBool.mk false, rfl⟩ | exact ⟨AnyBool.mk true, rfl⟩)
  have h1 : x.size ≤ 1048576 := by omega
  have h2 : x.size + n ≤ 1048576 := by omega
  clear hbig
  go_enter Trym.func14, Trym.ntmps14
  go_wp2
  go_loop [7, 8] (fun t i => ∃ (k : Nat) (z : Int), k ≤ n ∧ i = .int .i64 k ∧ t = .int .i64 z ∧ 0 ≤ z ∧ z ≤ 1048576) (fun _ i => n - (intOf i).toNat)
  case atStart => exact ⟨0, x.size + n, Nat.zero_le _, rfl, rfl, by omega, by omega⟩
  case round =>
    obtain ⟨k, z, hk, rfl, rfl, hz0, hz1⟩ := hrel
    by_cases hlt : k < n
    · obtain ⟨b, off, rfl, _, hc⟩ := hr (by omega)
      have hck := hc k hlt
      have hsk := hs k hlt
      generalize ss k = s at hck hsk
      clear hc hr hs
      go_wp2
      all_goals first
        | (go_ret; first | exact ⟨AnyBool.mk false, rfl⟩ | exact ⟨AnyBool.mk true, rfl⟩)
        | skip
      go_round
      case rel => exact ⟨k + 1, z + s.size, by omega, by go_num, rfl, by omega, by omega⟩
      case measure => simp [intOf]; omega
    · clear hr hs
      go_wp2
      all_goals (go_ret; first | exact ⟨AnyBool.mk false, rfl⟩ | exact ⟨AnyBool.mk true, rfl⟩)
end Go.Proofs.Qxb6602626aMods.Ss
