import Derived.Test.Qxb6602368aModsSkipTop
namespace Go.Proofs.Qxb6602368aMods.Sk
open Go.RowKit By

set_option maxRecDepth 20000 in
theorem lawBig (a : Option Addr) (n c : Nat) (off : Int) (ic : Bool) (w : World) (hn : n ≤ maxLen) (hbig : 1048576 < n ∨ off < 0) :
    Calls Trym.prog 6 #[.slice a n c, .int .i64 off, .bool ic] w fun e w' => e = .returned (.bool true) ∧ Below w.heap.size w w' := by
  have HZ : Hid (Calls Trym.prog 18 #[.slice a n c, .int .i64 off, .bool ic] w fun e w' => AnyBool e ∧ w' = w) := zzb18 a n c off ic w hn
  unfold maxLen at hn
  go_enter Trym.func6, Trym.ntmps6
  go_wp2_with fail
  refine HZ.out.mono ?_
  rintro e w' ⟨⟨r, rfl⟩, rfl⟩
  cases r
  · go_wp2
    go_ret
    exact ⟨rfl, Below.refl _ _⟩
  · go_wp2_with fail
    all_goals first | (exfalso; omega) | (go_ret; exact ⟨rfl, Below.refl _ _⟩)

/-- at each place up to the end: what the law's test will say -/
theorem at_place {l : List UInt8} {off : Nat} {ic : Bool} {t u : Nat} (h : Stop l off ic t) (hu : u ≤ t) (hlt : off + u < l.length) :
    (u < t ∧ cov ic (opn l off (u + 1)) (l.getD (off + u) 0) = true) ∨ (u = t ∧ cov ic (opn l off (u + 1)) (l.getD (off + u) 0) = false) := by
  by_cases e : u = t
  · subst e
    rcases h.stop with h1 | h1
    · omega
    · exact .inr ⟨rfl, h1.2⟩
  · exact .inl ⟨by omega, h.good.all u (by omega)⟩

set_option maxRecDepth 20000 in
set_option maxHeartbeats 4000000 in
theorem law (a : Option Addr) (n c : Nat) (off : Nat) (ic : Bool) (l : List UInt8) (w : World) (hl : l.length = n) (hn : n ≤ 1048576) (ho : off ≤ 9223372036854775807) (hnil : a = none → n = 0) (hr : Reads w w.heap.size a l) :
    Calls Trym.prog 6 #[.slice a n c, .int .i64 off, .bool ic] w fun e w' => e = .returned (.bool true) ∧ Below w.heap.size w w' := by
  have HZ : Hid (Calls Trym.prog 18 #[.slice a n c, .int .i64 off, .bool ic] w fun e w' => AnyBool e ∧ w' = w) := zzb18 a n c off ic w (by unfold maxLen; omega)
  have HCL : Hid (Calls Trym.prog 10 #[.slice a n c] w fun e w' => ∃ ao, e = .returned (.slice ao n n) ∧ Cloned w w' ao n l) := clone a n c l w hl hn hnil hr
  have HL : Hid (l.length = n) := hl
  clear hr hnil hl
  go_enter Trym.func6, Trym.ntmps6
  go_wp2_with fail
  refine HZ.out.mono ?_
  rintro e w' ⟨⟨r, rfl⟩, rfl⟩
  clear HZ
  cases r
  · go_wp2
    go_ret
    exact ⟨rfl, Below.refl _ _⟩
  go_wp2_with fail
  refine HCL.out.mono ?_
  rintro e w1 ⟨ao, rfl, hcl⟩
  clear HCL
  have HB1 : Hid (Below w'.heap.size w' w1) := hcl.below
  have HR1 : Hid (Reads w1 w1.heap.size ao l) := hcl.reads
  have HQ : Hid (Calls Trym.prog 19 #[.slice ao n n, .int .i64 off, .bool ic] w1 fun e w2 => ∃ r : Nat, e = .returned (.int .i64 r) ∧ Ends l off ic n r ∧ Below w1.heap.size w1 w2) := zzskip ao n ic off l w1 HL.out hn ho hcl.reads
  clear hcl
  go_wp2_with fail
  refine HQ.out.mono ?_
  rintro e w2 ⟨E, rfl, hends, hb2⟩
  clear HQ
  have HB2 : Hid (Below w'.heap.size w' w2) := HB1.out.trans (hb2.mono HB1.out.size)
  have HR2 : Hid (Reads w2 w1.heap.size ao l) := HR1.out.below hb2 (Nat.le_refl _)
  clear hb2 HB1 HR1
  by_cases hoff : n ≤ off
  · have hE := hends.1 hoff
    have hE' : ((E : Int) == (off : Int)) = true := by rw [hE]; simp
    clear hends hE
    go_wp2
    go_ret
    exact ⟨rfl, HB2.out⟩
  obtain ⟨t, hst, hEt⟩ := hends.2 (by omega)
  have hEn : E ≤ n := by have h1 := hst.good.le; have h2 := HL.out; omega
  have hoE : off ≤ E := by omega
  have HST : Hid (Stop l off ic t) := hst
  have HET : Hid (E = off + t) := hEt
  clear hends hst hEt
  go_wp2
  go_loop [8, 9] (fun oo i => ∃ u q : Nat, i = .int .i64 q ∧ oo = .bool (opn l off u) ∧ off ≤ q ∧ q ≤ E + 1 ∧ Hid (q = off + u)) (fun _ i => E + 1 - (intOf i).toNat)
  case atStart => exact ⟨0, off, rfl, rfl, by omega, by omega, rfl⟩
  case round =>
    obtain ⟨u, q, rfl, rfl, hq0, hq1, HQU⟩ := hrel
    by_cases hin : q ≤ E ∧ q < n
    · obtain ⟨hqE, hqn⟩ := hin
      have hpl := at_place HST.out (u := u) (by have := HQU.out; have := HET.out; omega) (by have := HQU.out; have := HL.out; omega)
      obtain ⟨b, bo, rfl, hbS, hcb⟩ := HR2.out (by rw [HL.out]; omega)
      have kc := hcb q (by rw [HL.out]; omega)
      obtain ⟨ch, Hch⟩ : ∃ ch, Hid (l.getD q 0 = ch) := ⟨_, rfl⟩
      rw [Hch.out] at kc
      unfold u8v at kc
      have kc1 : q + 1 < n → w2.cell? ⟨b, bo + (q + 1), none⟩ = some (u8v (l.getD (q + 1) 0)) := fun h => hcb (q + 1) (by rw [HL.out]; exact h)
      have KC1 : Hid (q + 1 < n → w2.cell? ⟨b, bo + (q + 1), none⟩ = some (u8v (l.getD (q + 1) 0))) := kc1
      clear hcb kc1
      rw [← HQU.out, Hch.out] at hpl
      obtain ⟨o, Ho⟩ : ∃ o, Hid (opn l off u = o) := ⟨_, rfl⟩
      have hon : opn l off (u + 1) = step l o q := by rw [opn, Ho.out, ← HQU.out]
      rw [hon] at hpl
      have HON : Hid (opn l off (u + 1) = step l o q) := hon
      rw [Ho.out]
      clear hon
      by_cases h10 : ch = 10
      · have hv : (ch.toNat : Int) = 10 := by rw [h10]; rfl
        have HSTEP : Hid (step l o q = false) := by show step l o q = false; unfold step; rw [if_pos (by rw [Hch.out]; exact h10)]
        cases ic
        · have HCV : Hid (cov false (step l o q) ch = true) := by show cov false (step l o q) ch = true; rw [HSTEP.out, h10]; rfl
          have hut : u < t := by
            rcases hpl with h | h
            · exact h.1
            · exact absurd (HCV.out.symm.trans h.2) (by simp)
          have hqlt : q < E := by have := HQU.out; have := HET.out; omega
          have hqeq : ((q : Int) == (E : Int)) = false := by simp; omega
          clear hpl hut KC1 HCV h10
          go_wp2
          go_round
          case rel => exact ⟨u + 1, q + 1, by go_num, by rw [HON.out, HSTEP.out], by omega, by omega, by show q + 1 = off + (u + 1); have := HQU.out; omega⟩
          case measure => simp [intOf]; omega
        · have HCV : Hid (cov true (step l o q) ch = false) := by show cov true (step l o q) ch = false; rw [HSTEP.out, h10]; rfl
          have hut : u = t := by
            rcases hpl with h | h
            · exact absurd (HCV.out.symm.trans h.2) (by simp)
            · exact h.1
          have hqE2 : q = E := by have := HQU.out; have := HET.out; omega
          have hqlt : ¬ q < E := by omega
          have hqeq : ((q : Int) == (E : Int)) = true := by simp; omega
          clear hqE2
          clear hpl hut KC1 HCV h10
          go_wp2
          go_round
          case rel => exact ⟨u + 1, q + 1, by go_num, by rw [HON.out, HSTEP.out], by omega, by omega, by show q + 1 = off + (u + 1); have := HQU.out; omega⟩
          case measure => simp [intOf]; omega
      have n10 : ((ch.toNat : Int) == 10) = false := ne_bool h10
      by_cases hot : o = true
      · subst hot
        have HSTEP : Hid (step l true q = true) := by show step l true q = true; unfold step; rw [if_neg (by rw [Hch.out]; exact h10), if_neg (by simp)]
        have HCV : Hid (cov ic (step l true q) ch = true) := by show cov ic (step l true q) ch = true; rw [HSTEP.out]; rfl
        have hut : u < t := by
          rcases hpl with h | h
          · exact h.1
          · exact absurd (HCV.out.symm.trans h.2) (by simp)
        have hqlt : q < E := by have := HQU.out; have := HET.out; omega
        have hqeq : ((q : Int) == (E : Int)) = false := by simp; omega
        clear hpl hut KC1 HCV h10
        go_wp2
        go_round
        case rel => exact ⟨u + 1, q + 1, by go_num, by rw [HON.out, HSTEP.out], by omega, by omega, by show q + 1 = off + (u + 1); have := HQU.out; omega⟩
        case measure => simp [intOf]; omega
      have hof : o = false := by simpa using hot
      subst hof
      clear hot
      by_cases hss : hasSS l q = true
      · have h47 : ch = 47 := by rw [← Hch.out]; exact (ss_47 hss).1
        have hv : (ch.toNat : Int) = 47 := by rw [h47]; rfl
        have hq2 : q + 1 < n := by have := (ss_47 hss).2; have := HL.out; omega
        have hy : l.getD (q + 1) 0 = 47 := by
          unfold hasSS at hss
          simp only [Bool.and_eq_true, beq_iff_eq] at hss
          exact hss.2
        have k1 : w2.cell? ⟨b, bo + (q + 1), none⟩ = some (.int .u8 47) := by rw [KC1.out hq2, hy]; rfl
        have HSTEP : Hid (step l false q = true) := by show step l false q = true; unfold step; rw [if_neg (by rw [Hch.out]; exact h10), if_pos ⟨rfl, hss⟩]
        have HCV : Hid (cov ic (step l false q) ch = true) := by show cov ic (step l false q) ch = true; rw [HSTEP.out]; rfl
        have hut : u < t := by
          rcases hpl with h | h
          · exact h.1
          · exact absurd (HCV.out.symm.trans h.2) (by simp)
        have hqlt : q < E := by have := HQU.out; have := HET.out; omega
        have hqeq : ((q : Int) == (E : Int)) = false := by simp; omega
        clear hpl hut KC1 HCV h10 hss h47 hy n10
        go_wp2
        go_round
        case rel => exact ⟨u6, .bool true, .int .i64 ((q : Int) + 1), ⟨u + 1, q + 1, by go_num, by rw [HON.out, HSTEP.out], by omega, by omega, by show q + 1 = off + (u + 1); have := HQU.out; omega⟩, rfl, rfl, rfl⟩
        case measure => simp [intOf]; omega
      have HSTEP : Hid (step l false q = false) := by show step l false q = false; unfold step; rw [if_neg (by rw [Hch.out]; exact h10), if_neg (fun h => hss h.2)]
      by_cases h47 : ch = 47
      · have hv : (ch.toNat : Int) = 47 := by rw [h47]; rfl
        have HCV : Hid (cov ic (step l false q) ch = false) := by show cov ic (step l false q) ch = false; rw [HSTEP.out, h47]; cases ic <;> rfl
        by_cases hq2 : q + 1 < n
        · obtain ⟨y, Hy⟩ : ∃ y, Hid (l.getD (q + 1) 0 = y) := ⟨_, rfl⟩
          have k1 : w2.cell? ⟨b, bo + (q + 1), none⟩ = some (.int .u8 y.toNat) := by rw [KC1.out hq2, Hy.out]; rfl
          have hyn : ((y.toNat : Int) == 47) = false := ne_bool (c := y) (d := 47) (fun h => hss (by
            unfold hasSS
            rw [decide_eq_true (by have := HL.out; omega), Hch.out, h47, Hy.out, h]; rfl))
          have hut : u = t := by
            rcases hpl with h | h
            · exact absurd (HCV.out.symm.trans h.2) (by simp)
            · exact h.1
          have hqE2 : q = E := by have := HQU.out; have := HET.out; omega
          have hqlt : ¬ q < E := by omega
          have hqeq : ((q : Int) == (E : Int)) = true := by simp; omega
          clear hqE2
          clear hpl hut KC1 HCV h10 hss h47 n10
          go_wp2
          go_round
          case rel => exact ⟨u6, .bool false, .int .i64 ((q : Int) + 1), ⟨u + 1, q + 1, by go_num, by rw [HON.out, HSTEP.out], by omega, by omega, by show q + 1 = off + (u + 1); have := HQU.out; omega⟩, rfl, rfl, rfl⟩
          case measure => simp [intOf]; omega
        · have hut : u = t := by
            rcases hpl with h | h
            · exact absurd (HCV.out.symm.trans h.2) (by simp)
            · exact h.1
          have hqE2 : q = E := by have := HQU.out; have := HET.out; omega
          have hqlt : ¬ q < E := by omega
          have hqeq : ((q : Int) == (E : Int)) = true := by simp; omega
          clear hqE2
          clear hpl hut KC1 HCV h10 hss h47 n10
          go_wp2
          go_round
          case rel => exact ⟨u6, .bool false, .int .i64 ((q : Int) + 1), ⟨u + 1, q + 1, by go_num, by rw [HON.out, HSTEP.out], by omega, by omega, by show q + 1 = off + (u + 1); have := HQU.out; omega⟩, rfl, rfl, rfl⟩
          case measure => simp [intOf]; omega
      have n47 : ((ch.toNat : Int) == 47) = false := ne_bool h47
      by_cases h32 : ch = 32
      · have hv : (ch.toNat : Int) = 32 := by rw [h32]; rfl
        have HCV : Hid (cov ic (step l false q) ch = true) := by show cov ic (step l false q) ch = true; rw [HSTEP.out, h32]; rfl
        have hut : u < t := by
          rcases hpl with h | h
          · exact h.1
          · exact absurd (HCV.out.symm.trans h.2) (by simp)
        have hqlt : q < E := by have := HQU.out; have := HET.out; omega
        have hqeq : ((q : Int) == (E : Int)) = false := by simp; omega
        clear hpl hut KC1 HCV h10 hss h47 h32 n10 n47
        go_wp2
        go_round
        case rel => exact ⟨u + 1, q + 1, by go_num, by rw [HON.out, HSTEP.out], by omega, by omega, by show q + 1 = off + (u + 1); have := HQU.out; omega⟩
        case measure => simp [intOf]; omega
      have n32 : ((ch.toNat : Int) == 32) = false := ne_bool h32
      by_cases h9 : ch = 9
      · have hv : (ch.toNat : Int) = 9 := by rw [h9]; rfl
        have HCV : Hid (cov ic (step l false q) ch = true) := by show cov ic (step l false q) ch = true; rw [HSTEP.out, h9]; rfl
        have hut : u < t := by
          rcases hpl with h | h
          · exact h.1
          · exact absurd (HCV.out.symm.trans h.2) (by simp)
        have hqlt : q < E := by have := HQU.out; have := HET.out; omega
        have hqeq : ((q : Int) == (E : Int)) = false := by simp; omega
        clear hpl hut KC1 HCV h10 hss h47 h9 n10 n47 h32 n32
        go_wp2
        go_round
        case rel => exact ⟨u + 1, q + 1, by go_num, by rw [HON.out, HSTEP.out], by omega, by omega, by show q + 1 = off + (u + 1); have := HQU.out; omega⟩
        case measure => simp [intOf]; omega
      have n9 : ((ch.toNat : Int) == 9) = false := ne_bool h9
      by_cases h13 : ch = 13
      · have hv : (ch.toNat : Int) = 13 := by rw [h13]; rfl
        have HCV : Hid (cov ic (step l false q) ch = true) := by show cov ic (step l false q) ch = true; rw [HSTEP.out, h13]; rfl
        have hut : u < t := by
          rcases hpl with h | h
          · exact h.1
          · exact absurd (HCV.out.symm.trans h.2) (by simp)
        have hqlt : q < E := by have := HQU.out; have := HET.out; omega
        have hqeq : ((q : Int) == (E : Int)) = false := by simp; omega
        clear hpl hut KC1 HCV h10 hss h47 h13 n10 n47 h32 n32 h9 n9
        go_wp2
        go_round
        case rel => exact ⟨u + 1, q + 1, by go_num, by rw [HON.out, HSTEP.out], by omega, by omega, by show q + 1 = off + (u + 1); have := HQU.out; omega⟩
        case measure => simp [intOf]; omega
      have n13 : ((ch.toNat : Int) == 13) = false := ne_bool h13
      have HCV : Hid (cov ic (step l false q) ch = false) := by
        show cov ic (step l false q) ch = false
        rw [HSTEP.out]
        unfold cov
        rw [beq_eq_false_iff_ne.2 h32, beq_eq_false_iff_ne.2 h9, beq_eq_false_iff_ne.2 h13, beq_eq_false_iff_ne.2 h10]
        rfl
      have hut : u = t := by
        rcases hpl with h | h
        · exact absurd (HCV.out.symm.trans h.2) (by simp)
        · exact h.1
      have hqE2 : q = E := by have := HQU.out; have := HET.out; omega
      have hqlt : ¬ q < E := by omega
      have hqeq : ((q : Int) == (E : Int)) = true := by simp; omega
      clear hqE2
      clear hpl hut KC1 HCV h10 hss h47 h32 h9 h13
      go_wp2
      go_round
      case rel => exact ⟨u + 1, q + 1, by go_num, by rw [HON.out, HSTEP.out], by omega, by omega, by show q + 1 = off + (u + 1); have := HQU.out; omega⟩
      case measure => simp [intOf]; omega
    · by_cases hqE : q ≤ E
      · have hqn : ¬ q < n := by omega
        clear hin
        go_wp2
        go_ret
        exact ⟨rfl, HB2.out⟩
      · clear hin
        go_wp2
        go_ret
        exact ⟨rfl, HB2.out⟩
end Go.Proofs.Qxb6602368aMods.Sk
