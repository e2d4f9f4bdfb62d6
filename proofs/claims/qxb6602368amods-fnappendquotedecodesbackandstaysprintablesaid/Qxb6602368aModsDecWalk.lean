import Derived.Test.Qxb6602368aModsUnq
import Derived.Deep.Cut
import Derived.Deep.CutRange
namespace Go.Proofs.Qxb6602368aMods.Dec
open Go.RowKit By Q

/-- the shape of a row that is owned and holds something -/
theorem own_shape {w : World} {base : Nat} {v : Value} {X : List UInt8} (h : w.ownsRow base 5 1 v X.length (bs X)) (h0 : 0 < X.length) :
    ∃ g cp, v = .slice (some ⟨g, 0, none⟩) X.length cp ∧ base ≤ g ∧ g < w.heap.size ∧ X.length ≤ cp ∧ ∀ j, j < X.length → w.cell? ⟨g, j, none⟩ = some (u8v (X.getD j 0)) := by
  have hc := h
  rcases h.2 with ⟨_, h2⟩ | ⟨g, cap, cur, rfl, hb, hg, hcap, _⟩
  · omega
  · exact ⟨g, cap, rfl, hb, (hc.lt g rfl).2, hcap, fun j hj => by rw [hc.cellAt j (by omega), bs_get X j hj]⟩

theorem own_reads {w : World} {base : Nat} {v : Value} {X : List UInt8} (h : w.ownsRow base 5 1 v X.length (bs X)) : ∃ ao cp, v = .slice ao X.length cp ∧ Reads w w.heap.size ao X := by
  by_cases h0 : 0 < X.length
  · obtain ⟨g, cp, rfl, _, hg, _, hc⟩ := own_shape h h0
    exact ⟨_, _, rfl, fun _ => ⟨g, 0, rfl, hg, fun j hj => by rw [Nat.zero_add]; exact hc j hj⟩⟩
  · rcases h.2 with ⟨rfl, h2⟩ | ⟨g, cap, cur, rfl, _⟩
    · rw [h2]
      exact ⟨none, 0, rfl, fun h3 => absurd h3 (by omega)⟩
    · exact ⟨_, _, rfl, fun h3 => absurd h3 h0⟩

theorem getD_left {L M : List UInt8} {j : Nat} (h : j < L.length) : (L ++ M).getD j 0 = L.getD j 0 := by
  rw [List.getD_eq_getElem?_getD, List.getElem?_append_left h, List.getD_eq_getElem?_getD]
theorem getD_right {L M : List UInt8} (j : Nat) : (L ++ M).getD (L.length + j) 0 = M.getD j 0 := by
  rw [List.getD_eq_getElem?_getD, List.getElem?_append_right (by omega), Nat.add_sub_cancel_left, List.getD_eq_getElem?_getD]

set_option maxRecDepth 20000 in
theorem big (a : Option Addr) (n c : Nat) (s : ByteArray) (w : World) (hn : n ≤ maxLen) (hs : s.size ≤ maxLen) (hbig : 1048576 < n ∨ 1048576 < s.size ∨ 1048576 < n + s.size) :
    Calls Trym.prog 4 #[.slice a n c, .string s] w fun e w' => e = .returned (.bool true) ∧ Below w.heap.size w w' := by
  have HZ : Hid (Calls Trym.prog 14 #[.slice a n c, .string s] w fun e w' => AnyBool e ∧ w' = w) := zzb14 a n c s w hn hs
  unfold maxLen at hn hs
  go_enter Trym.func4, Trym.ntmps4
  go_wp2_with fail
  refine HZ.out.mono ?_
  rintro e w' ⟨⟨r, rfl⟩, rfl⟩
  cases r
  · go_wp2
    go_ret
    exact ⟨rfl, Below.refl _ _⟩
  · go_wp2_with fail
    all_goals first | (exfalso; omega) | (go_ret; exact ⟨rfl, Below.refl _ _⟩)

set_option maxRecDepth 20000 in
set_option maxHeartbeats 4000000 in
theorem small (a : Option Addr) (n c : Nat) (L : List UInt8) (s : ByteArray) (w : World) (hL : L.length = n) (hn : n ≤ 1048576) (hs : s.size ≤ 1048576) (hsum : n + s.size ≤ 1048576) (hnil : a = none → n = 0) (hr : Reads w w.heap.size a L) :
    Calls Trym.prog 4 #[.slice a n c, .string s] w fun e w' => e = .returned (.bool true) ∧ Below w.heap.size w w' := by
  have HZ : Hid (Calls Trym.prog 14 #[.slice a n c, .string s] w fun e w' => AnyBool e ∧ w' = w) := zzb14 a n c s w (by unfold maxLen; omega) (by unfold maxLen; omega)
  have HCL : Hid (Calls Trym.prog 10 #[.slice a n c] w fun e w' => ∃ ao, e = .returned (.slice ao n n) ∧ Cloned w w' ao n L) := clone a n c L w hL hn hnil hr
  have HL : Hid (L.length = n) := hL
  have HLL : Hid (s.data.toList.length = s.size) := by show s.data.toList.length = s.size; simp
  clear hr hnil hL
  go_enter Trym.func4, Trym.ntmps4
  go_wp2_with fail
  refine HZ.out.mono ?_
  rintro e w' ⟨⟨r, rfl⟩, rfl⟩
  clear HZ
  cases r
  · go_wp2
    go_ret
    exact ⟨rfl, Below.refl _ _⟩
  go_wp2_with fail
  refine HCL.out.mono ?_
  rintro e w1 ⟨ao, rfl, hcl⟩
  clear HCL
  have HB1 : Hid (Below w'.heap.size w' w1) := hcl.below
  have HR1 : Hid (Reads w1 w1.heap.size ao L) := hcl.reads
  have HQ : Hid (Calls Trym.prog 11 #[.slice ao n n, .string s] w1 fun e w2 => ∃ v', e = .returned v' ∧ w2.ownsRow w1.heap.size 5 1 v' (L ++ quote s.data.toList).length (bs (L ++ quote s.data.toList)) ∧ Below w1.heap.size w1 w2) := quote_any ao n L s w1 HL.out hn hs hcl.nil hcl.reads
  clear hcl
  go_wp2_with fail
  refine HQ.out.mono ?_
  rintro e w2 ⟨v2, rfl, hown2, hb2⟩
  clear HQ
  obtain ⟨qs, HQS⟩ : ∃ qs, Hid (quote s.data.toList = qs) := ⟨_, rfl⟩
  obtain ⟨N, HN⟩ : ∃ N, Hid (qs.length = N) := ⟨_, rfl⟩
  rw [HQS.out] at hown2
  have hlen : (L ++ qs).length = n + N := by rw [List.length_append, HL.out, HN.out]
  have hN2 : 2 ≤ N := by rw [← HN.out, ← HQS.out, quote_length]; omega
  have hN3 : N ≤ 6291458 := by rw [← HN.out, ← HQS.out, quote_length]; have h1 := esc_length s.data.toList; have h2 := HLL.out; omega
  obtain ⟨g, cp, rfl, hg0, hg, hcp, hcell⟩ := own_shape hown2 (by omega)
  rw [hlen] at hcp hcell ⊢
  have HCE : Hid (∀ j, j < n + N → w2.cell? ⟨g, j, none⟩ = some (u8v ((L ++ qs).getD j 0))) := hcell
  have HR2 : Hid (Reads w2 w1.heap.size ao L) := HR1.out.below hb2 (Nat.le_refl _)
  have hs1 := HB1.out.size
  have hs2 := hb2.size
  have HB2 : Hid (Below w'.heap.size w' w2) := HB1.out.trans (hb2.mono hs1)
  clear hcell hown2 hlen hb2 HB1 HR1
  have hcpn : n < cp := by omega
  go_wp2
  go_loopw [6] (fun i wr => ∃ k q : Nat, k ≤ n ∧ i = .int .i64 k ∧ wr = w2.drewN q) (fun i _ => n - (intOf i).toNat)
  case atStart => exact ⟨0, 0, Nat.zero_le _, rfl, rfl⟩
  case round =>
    obtain ⟨k, q, hk, rfl, rfl⟩ := hrel
    by_cases hlt : k < n
    · obtain ⟨b, off, rfl, _, hcb⟩ := HR2.out (by have := HL.out; omega)
      have c1 := hcb k (by have := HL.out; omega)
      have c2 := HCE.out k (by omega)
      rw [getD_left (by have := HL.out; omega)] at c2
      clear hcb
      generalize L.getD k 0 = ch at c1 c2
      unfold u8v at c1 c2
      have hi1 : (k : Int) < (n : Int) := by omega
      have hi2 : (k : Int) < (n : Int) + (N : Int) := by omega
      have hi3 : k < n + N := by omega
      go_wp2
      go_quiet (fail)
      go_wp2
      go_roundw
      case rel => exact ⟨k + 1, _, by omega, by go_num, rfl⟩
      case measure => simp [intOf]; omega
    · have HQC : Hid (∀ j, j < N → w2.cell? ⟨g, n + j, none⟩ = some (u8v (qs.getD j 0))) := fun j hj => by
        have h := HCE.out (n + j) (by omega)
        have e := getD_right (L := L) (M := qs) j
        rw [HL.out] at e
        rw [e] at h
        exact h
      clear HCE HR2
      go_wp2
      go_loop [8] (fun i => ∃ t : Nat, t ≤ N ∧ i = .int .i64 t) (fun i => N - (intOf i).toNat)
      case atStart => exact ⟨0, Nat.zero_le _, rfl⟩
      case round =>
        obtain ⟨t, ht, rfl⟩ := hrel
        by_cases htl : t < N
        · have c1 := HQC.out t htl
          have hge : 32 ≤ ((qs.getD t 0).toNat : Int) := by
            have h := quote_getD_ge s.data.toList (j := t) (by rw [HQS.out, HN.out]; exact htl)
            rw [HQS.out] at h
            omega
          generalize qs.getD t 0 = ch at c1 hge
          unfold u8v at c1
          go_wp2
          go_round
          case rel => exact ⟨t + 1, by omega, by go_num⟩
          case measure => simp [intOf]; omega
        · have HU : Hid (Calls Trym.prog 15 #[.slice (some ⟨g, n, none⟩) N (cp - n)] (w2.drewN q) fun e w' => ∃ v, e = .returned (.tuple #[v, .bool true]) ∧ w'.ownsRow (w2.drewN q).heap.size 5 1 v s.data.toList.length (bs s.data.toList) ∧ Below (w2.drewN q).heap.size (w2.drewN q) w') :=
            unq g n (cp - n) N s.data.toList (w2.drewN q) (by rw [HLL.out]; exact hs) hg (by rw [HQS.out]; exact HN.out) (fun j hj => by rw [HQS.out] at hj ⊢; rw [HN.out] at hj; exact HQC.out j hj)
          clear HQC
          go_wp2_with fail
          refine HU.out.mono ?_
          rintro e w3 ⟨v3, rfl, hown3, hb3⟩
          clear HU
          obtain ⟨ad, cd, rfl, hrd⟩ := own_reads hown3
          rw [HLL.out]
          have HRD : Hid (Reads w3 w3.heap.size ad s.data.toList) := hrd
          have HB3 : Hid (Below w'.heap.size w' w3) := (below_drewN HB2.out q).trans (hb3.mono HB2.out.size)
          clear hown3 hb3 hrd HB2
          go_wp2
          go_loopw [11] (fun i wr => ∃ k q : Nat, k ≤ s.size ∧ i = .int .i64 k ∧ wr = w3.drewN q) (fun i _ => s.size - (intOf i).toNat)
          case atStart => exact ⟨0, 0, Nat.zero_le _, rfl, rfl⟩
          case round =>
            obtain ⟨m, q', hm, rfl, rfl⟩ := hrel
            by_cases hml : m < s.size
            · obtain ⟨b, off, rfl, _, hcb⟩ := HRD.out (by rw [HLL.out]; omega)
              have c1 := hcb m (by rw [HLL.out]; omega)
              rw [getD_data s m hml] at c1
              clear hcb
              unfold u8v at c1
              have hi1 : (m : Int) < (s.size : Int) := by omega
              go_wp2
              go_quiet (fail)
              go_wp2
              go_roundw
              case rel => exact ⟨m + 1, _, by omega, by go_num, rfl⟩
              case measure => simp [intOf]; omega
            · go_wp2
              go_ret
              exact ⟨rfl, below_drewN HB3.out _⟩
end Go.Proofs.Qxb6602368aMods.Dec
