import Derived.Test.Qxb6602626aModsRows
import Derived.WalkKit
import Derived.WalkSpells
import Derived.WalkLawsBesides
import Derived.LoopTactic
import Derived.Test.Qxb6602626aModsBkPlain
namespace Go.Proofs.Qxb6602626aMods.Bk
open Go.RowKit
theorem ret_int {k : IntKind} {a b : Int} (h : a = b) : Ending.returned (.int k a) = .returned (.int k b) := by rw [h]
theorem ret_bool {a b : Bool} (h : a = b) : Ending.returned (.bool a) = .returned (.bool b) := by rw [h]
theorem wrap64_id {x : Int} (h0 : 0 ≤ x) (h1 : x ≤ 9223372036854775807) : wrap64 x = x := by unfold wrap64; omega
set_option maxHeartbeats 400000 in
theorem backoff (b f n l : Int) (w : World) (hb : 0 ≤ b) (hb1 : b ≤ 2147483647) (hf : 1 ≤ f) (hf1 : f ≤ 2147483647) (hn : 0 ≤ n) (hn1 : n ≤ 2147483647) (hl : 0 ≤ l) (hl1 : l ≤ 2147483647) :
    Calls Trym.prog 16 #[.int .i32 b, .int .i32 f, .int .i32 n, .int .i32 l] w fun e w' => e = .returned (.int .i32 (bo b f n.toNat l)) ∧ w' = w := by
  go_enter Trym.func16, Trym.ntmps16
  go_wp2
  go_loop [9, 10] (fun d i => ∃ k : Nat, k ≤ n.toNat ∧ i = .int .i32 k ∧ d = .int .i64 (pw b f k) ∧ pw b f k ≤ 4611686014132420609) (fun _ i => n.toNat - (intOf i).toNat)
  case atStart => exact ⟨0, Nat.zero_le _, rfl, rfl, by rw [pw_zero]; omega⟩
  case round =>
    obtain ⟨k, hk, rfl, rfl, hp⟩ := hrel
    have h0 := pw_nonneg hb hf k
    go_wp2
    rotate_left
    all_goals first | (go_ret; exact ⟨ret_int (by rw [← bo_exit (n := n.toNat) (l := l) hb hf hk (by omega)]; split <;> omega), rfl⟩) | skip
    have hm := mul_lt_62 (d := pw b f k) (f := f) (l := l) (by assumption) hl1 (by omega) hf1
    have hm0 : 0 ≤ pw b f k * f := Int.mul_nonneg h0 (by omega)
    go_round
    case rel => exact ⟨k + 1, by omega, by go_num, by rw [pw_succ, wrap64_id (by omega) (by omega)], by rw [pw_succ]; omega⟩
    case measure => simp [intOf]; omega

/-- the same, the result under a name -/
theorem backoffD {b f n l D : Int} (w : World) (hb : 0 ≤ b) (hb1 : b ≤ 2147483647) (hf : 1 ≤ f) (hf1 : f ≤ 2147483647) (hn : 0 ≤ n) (hn1 : n ≤ 2147483647) (hl : 0 ≤ l) (hl1 : l ≤ 2147483647) (hD : Hid (bo b f n.toNat l = D)) :
    Calls Trym.prog 16 #[.int .i32 b, .int .i32 f, .int .i32 n, .int .i32 l] w fun e w' => e = .returned (.int .i32 D) ∧ w' = w := by
  have h := backoff b f n l w hb hb1 hf hf1 hn hn1 hl hl1
  rw [hD.out] at h
  exact h
end Go.Proofs.Qxb6602626aMods.Bk
