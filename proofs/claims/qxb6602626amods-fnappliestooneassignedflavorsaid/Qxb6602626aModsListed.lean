import Derived.Test.Qxb6602626aModsFill
import Derived.Deep.QuietTactic
import Derived.BigQuiet
namespace Go.Proofs.Qxb6602626aMods.Ss
open Go.RowKit

theorem toList_same (s x : ByteArray) : (s.toList == x.toList) = decide (s = x) := by
  rw [ByteArray.toList_eq, ByteArray.toList_eq, Bool.eq_iff_iff]
  simp only [beq_iff_eq, decide_eq_true_eq]
  exact ⟨fun h => WideShapes.bytes_inj h, fun h => by rw [h]⟩

/-- listed: is one of the strings this one? -/
theorem listed (B : Nat) (a : Option Addr) (n c : Nat) (ss : Nat → ByteArray) (x : ByteArray) (w : World) (hn : n ≤ 65537) (hr : Reads w B a n ss) :
    Calls Trym.prog 17 #[.slice a n c, .string x] w fun e w' => e = .returned (.bool (anyB (fun j => decide (ss j = x)) n)) ∧ w' = w := by
  go_enter Trym.func17, Trym.ntmps17
  go_wp2
  go_loop [9] (fun i => ∃ k : Nat, k ≤ n ∧ i = .int .i64 k ∧ Hid (anyB (fun j => decide (ss j = x)) k = false)) (fun i => n - (intOf i).toNat)
  case atStart => exact ⟨0, Nat.zero_le _, rfl, rfl⟩
  case round =>
    obtain ⟨k, hk, rfl, HA⟩ := hrel
    by_cases hlt : k < n
    · obtain ⟨b, off, rfl, hbB, hc⟩ := hr (by omega)
      have hck := hc k hlt
      clear hc hr
      obtain ⟨s, Hs⟩ : ∃ s, Hid (ss k = s) := ⟨_, rfl⟩
      rw [Hs.out] at hck
      go_wp2
      · have ht : (s.toList == x.toList) = true := by assumption
        have HF : Hid (anyB (fun j => decide (ss j = x)) n = true) := anyB_true hlt (by show decide (ss k = x) = true; rw [Hs.out, ← toList_same]; exact ht)
        go_ret
        exact ⟨ret_bool HF.out.symm, rfl⟩
      · have hf : (s.toList == x.toList) = false := by assumption
        have HF : Hid (anyB (fun j => decide (ss j = x)) (k + 1) = false) := by
          show anyB (fun j => decide (ss j = x)) (k + 1) = false
          rw [anyB, HA.out, Hs.out, ← toList_same, hf]; rfl
        go_round
        case rel => exact ⟨k + 1, by omega, by go_num, HF⟩
        case measure => simp [intOf]; omega
    · clear hr
      have HF : Hid (anyB (fun j => decide (ss j = x)) n = false) := by
        have e : k = n := by omega
        rw [← e]; exact HA
      go_wp2
      go_ret
      exact ⟨ret_bool HF.out.symm, rfl⟩

/-- ZZlisted hands on. -/
theorem zzlisted {a : Option Addr} {n c : Nat} {x : ByteArray} {r : Bool} (B : Nat) (ss : Nat → ByteArray) (w : World) (hn : n ≤ 65537) (hr : Reads w B a n ss) (hx : Hid (anyB (fun j => decide (ss j = x)) n = r)) :
    Calls Trym.prog 11 #[.slice a n c, .string x] w fun e w' => e = .returned (.bool r) ∧ w' = w := by
  have H := listed B a n c ss x w hn hr
  rw [hx.out] at H
  have HH : Hid (Calls Trym.prog 17 #[.slice a n c, .string x] w fun e w' => e = .returned (.bool r) ∧ w' = w) := H
  clear H hr hx
  go_enter Trym.func11, Trym.ntmps11
  go_wp2_with fail
  refine HH.out.mono ?_
  rintro e w' ⟨rfl, rfl⟩
  go_wp2
  go_ret
  exact ⟨rfl, rfl⟩

theorem take_snoc (s : ByteArray) (k : Nat) (h : k < s.size) : s.data.toList.take (k + 1) = s.data.toList.take k ++ [s[k]] := by
  rw [List.take_succ_eq_append_getElem (by simpa using h)]; rfl

/-- zzSameString: are the two the same? It draws. -/
theorem same (x y : ByteArray) (w : World) (hx : x.size ≤ maxLen) (hy : y.size ≤ maxLen) :
    Calls Trym.prog 12 #[.string x, .string y] w fun e w' => e = .returned (.bool (decide (x = y))) ∧ ∃ q, w' = w.drewN q := by
  unfold maxLen at hx hy
  by_cases hl : x.size = y.size
  · have hl' : ((x.size : Int) != (y.size : Int)) = false := by simp; omega
    have HL : Hid (x.size = y.size) := hl
    clear hl
    go_enter Trym.func12, Trym.ntmps12
    go_wp2
    go_loopw [5] (fun i wr => ∃ k q : Nat, k ≤ x.size ∧ i = .int .i64 k ∧ wr = w.drewN q ∧ Hid (x.data.toList.take k = y.data.toList.take k)) (fun i _ => x.size - (intOf i).toNat)
    case atStart => exact ⟨0, 0, Nat.zero_le _, rfl, rfl, rfl⟩
    case round =>
      obtain ⟨k, q, hk, rfl, rfl, HT⟩ := hrel
      by_cases hlt : k < x.size
      · have hly : k < y.size := by have := HL.out; omega
        have hi1 : (k : Int) < (x.size : Int) := by omega
        have hi2 : (k : Int) < (y.size : Int) := by omega
        go_wp2
        go_quiet (fail)
        go_wp2
        · have hne : ((x[k].toNat : Int) != (y[k].toNat : Int)) = true := by assumption
          have HF : Hid (¬ x = y) := by
            intro h
            subst h
            simp at hne
          go_ret
          exact ⟨ret_bool (decide_eq_false HF.out).symm, q + nq, by simp only [World.drewN_drewN]⟩
        · have he : ((x[k].toNat : Int) != (y[k].toNat : Int)) = false := by assumption
          have HT' : Hid (x.data.toList.take (k + 1) = y.data.toList.take (k + 1)) := by
            have e1 : x[k] = y[k] := by
              apply UInt8.toNat_inj.1
              simp at he; omega
            show x.data.toList.take (k + 1) = y.data.toList.take (k + 1)
            rw [take_snoc x k hlt, take_snoc y k hly, HT.out, e1]
          go_roundw
          case rel => exact ⟨k + 1, _, by omega, by go_num, rfl, HT'⟩
          case measure => simp [intOf]; omega
      · have HF : Hid (x = y) := by
          apply WideShapes.bytes_inj
          have e1 : k = x.data.toList.length := by simp; have : x.data.size = x.size := rfl; omega
          have e2 : k = y.data.toList.length := by have := HL.out; simp; have : y.data.size = y.size := rfl; have : x.data.size = x.size := rfl; omega
          have h := HT.out
          rw [List.take_of_length_le (by omega), List.take_of_length_le (by omega)] at h
          exact h
        go_wp2
        go_ret
        exact ⟨ret_bool (decide_eq_true HF.out).symm, _, rfl⟩
  · have hl' : ((x.size : Int) != (y.size : Int)) = true := by simp; omega
    have HL : Hid (¬ x = y) := fun h => hl (by rw [h])
    clear hl
    go_enter Trym.func12, Trym.ntmps12
    go_wp2
    go_ret
    exact ⟨ret_bool (decide_eq_false HL.out).symm, 0, rfl⟩
end Go.Proofs.Qxb6602626aMods.Ss
