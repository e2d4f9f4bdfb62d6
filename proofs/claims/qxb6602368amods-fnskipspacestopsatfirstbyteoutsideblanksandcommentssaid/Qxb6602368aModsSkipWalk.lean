import Derived.Test.Qxb6602368aModsScan
namespace Go.Proofs.Qxb6602368aMods.Sk
open Go.RowKit By

theorem ne_bool {c d : UInt8} (h : ¬ c = d) : ((c.toNat : Int) == (d.toNat : Int)) = false := by
  simp only [beq_eq_false_iff_ne, ne_eq]
  intro e
  exact h (UInt8.toNat_inj.1 (by omega))

theorem prefixD {S : Nat} {ao : Option Addr} {n : Nat} {ic : Bool} {p : Nat} {l : List UInt8} {r : Bool} (w : World) (hl : l.length = n) (hn : n ≤ 1048576) (hp : p < n) (hsc : Sc w S ao n ic p) (hr : Reads w S ao l) (h : Hid (hasSS l p = r)) :
    Calls Trym.prog 27 #[.pointer (some ⟨S, 0, none⟩), .string ⟨#[47, 47]⟩] w fun e w' => e = .returned (.bool r) ∧ ∃ q, w' = w.drewN q := by
  have H := hasPrefix S ao n ic p l w hl hn hp hsc hr
  rw [h.out] at H
  exact H

theorem sc_next {w : World} {S : Nat} {ao : Option Addr} {n : Nat} {ic : Bool} {off t p q : Nat} (h : Sc w S ao n ic (off + t)) (hp : off + t = p) : Sc ((w.drewN q).setCell ⟨S, 2, none⟩ (.int .i64 ((p : Int) + 1))) S ao n ic (off + (t + 1)) := by
  have e : (p : Int) + 1 = ((off + (t + 1) : Nat) : Int) := by omega
  rw [e]
  exact (h.drewN q).step

set_option maxRecDepth 20000 in
set_option maxHeartbeats 4000000 in
theorem skip (S : Nat) (ao : Option Addr) (n : Nat) (ic : Bool) (off : Nat) (l : List UInt8) (w : World) (hl : l.length = n) (hn : n ≤ 1048576) (hoff : off ≤ n) (hsc : Sc w S ao n ic off) (hr : Reads w S ao l) :
    Calls Trym.prog 25 #[.pointer (some ⟨S, 0, none⟩)] w fun e w' => e = .returned (.tuple #[]) ∧ ∃ t, Stop l off ic t ∧ Sc w' S ao n ic (off + t) ∧ Below S w w' := by
  have HL : Hid (l.length = n) := hl
  have HR : Hid (Reads w S ao l) := hr
  have HS0 : Hid (Sc w S ao n ic off) := hsc
  clear hl hr hsc
  go_enter Trym.func25, Trym.ntmps25
  go_wp2
  go_loopg [22] (n - off) (fun g _ wr => ∃ t, off + t + g = n ∧ Hid (Sc wr S ao n ic (off + t)) ∧ Hid (Good l off ic t) ∧ Below S w wr)
  case atStart => exact ⟨0, by omega, HS0, good_start (by rw [HL.out]; exact hoff), Below.refl _ _⟩
  case round =>
    obtain ⟨t, ht, HS, HG, hbr⟩ := hrel
    have k0 := HS.out.c0
    have k2 := HS.out.c2
    have k3 := HS.out.c3
    have kf := HS.out.f2
    obtain ⟨p, hp⟩ : ∃ p, off + t = p := ⟨_, rfl⟩
    rw [hp] at k2
    by_cases hlt : p < n
    · obtain ⟨b, bo, rfl, hbS, hcb⟩ := HR.out (by rw [HL.out]; omega)
      have kc := (hbr.cell (p := ⟨b, bo + p, none⟩) hbS).trans (hcb p (by rw [HL.out]; omega))
      clear hcb
      obtain ⟨ch, Hch⟩ : ∃ ch, Hid (l.getD p 0 = ch) := ⟨_, rfl⟩
      rw [Hch.out] at kc
      unfold u8v at kc
      have HP : Hid (off + t = p) := hp
      have HT : Hid (off + t + gk = n) := ht
      have hc' : l.getD (off + t) 0 = ch := by rw [hp]; exact Hch.out
      have hlt' : off + t < l.length := by rw [hp, HL.out]; exact hlt
      have HCC : Hid (l.getD (off + t) 0 = ch ∧ off + t < l.length) := ⟨hc', hlt'⟩
      clear hp ht hc' hlt'
      have HSq : Hid (∀ q, Sc (wr.drewN q) S (some ⟨b, bo, none⟩) n ic p) := fun q => by rw [← HP.out]; exact HS.out.drewN q
      have HRq : Hid (∀ q, Reads (wr.drewN q) S (some ⟨b, bo, none⟩) l) := fun q => HR.out.below (below_drewN hbr q) (Nat.le_refl _)
      have hpi : (p : Int) < (n : Int) := by omega
      by_cases h32 : ch = 32
      · have hv : (ch.toNat : Int) = 32 := by rw [h32]; rfl
        have HGn : Hid (Good l off ic (t + 1)) := good_blank (c := ch) HG.out HCC.out.2 HCC.out.1 (by rw [h32]; decide)
        clear h32
        go_wp2
        go_quiet (fail)
        go_wp2
        go_quiet (fail)
        go_wp2
        go_roundg (gk - 1)
        case measure => have := HT.out; have := HP.out; omega
        case rel => exact ⟨t + 1, by have := HT.out; have := HP.out; omega, sc_next HS.out HP.out, HGn, (below_drewN hbr _).setCell (Nat.le_refl _) _⟩
      by_cases h9 : ch = 9
      · have hv : (ch.toNat : Int) = 9 := by rw [h9]; rfl
        have HGn : Hid (Good l off ic (t + 1)) := good_blank (c := ch) HG.out HCC.out.2 HCC.out.1 (by rw [h9]; decide)
        clear h9
        go_wp2
        go_quiet (fail)
        go_wp2
        go_quiet (fail)
        go_wp2
        go_roundg (gk - 1)
        case measure => have := HT.out; have := HP.out; omega
        case rel => exact ⟨t + 1, by have := HT.out; have := HP.out; omega, sc_next HS.out HP.out, HGn, (below_drewN hbr _).setCell (Nat.le_refl _) _⟩
      by_cases h13 : ch = 13
      · have hv : (ch.toNat : Int) = 13 := by rw [h13]; rfl
        have HGn : Hid (Good l off ic (t + 1)) := good_blank (c := ch) HG.out HCC.out.2 HCC.out.1 (by rw [h13]; decide)
        clear h13
        go_wp2
        go_quiet (fail)
        go_wp2
        go_quiet (fail)
        go_wp2
        go_roundg (gk - 1)
        case measure => have := HT.out; have := HP.out; omega
        case rel => exact ⟨t + 1, by have := HT.out; have := HP.out; omega, sc_next HS.out HP.out, HGn, (below_drewN hbr _).setCell (Nat.le_refl _) _⟩
      have n32 : ((ch.toNat : Int) == 32) = false := ne_bool h32
      have n9 : ((ch.toNat : Int) == 9) = false := ne_bool h9
      have n13 : ((ch.toNat : Int) == 13) = false := ne_bool h13
      by_cases h10 : ch = 10
      · have hv : ((ch.toNat : Int) == 10) = true := by rw [h10]; rfl
        cases ic
        · have HGn : Hid (Good l off false (t + 1)) := good_nl HG.out HCC.out.2 (by rw [HCC.out.1]; exact h10)
          clear h10 h32 h9 h13
          go_wp2
          go_quiet (fail)
          go_wp2
          go_quiet (fail)
          go_wp2
          go_roundg (gk - 1)
          case measure => have := HT.out; have := HP.out; omega
          case rel => exact ⟨t + 1, by have := HT.out; have := HP.out; omega, sc_next HS.out HP.out, HGn, (below_drewN hbr _).setCell (Nat.le_refl _) _⟩
        · have HST : Hid (Stop l off true t) := stop_nl HG.out HCC.out.2 (by rw [HCC.out.1]; exact h10)
          clear h10 h32 h9 h13
          go_wp2
          go_quiet (fail)
          go_wp2
          go_quiet (fail)
          go_wp2
          try simp only [Exit.inBlock, Exit.then]
          refine bodyPost_ret (results_none rfl _ _ _) rfl ?_
          exact ⟨rfl, t, HST.out, HS.out.drewN _, below_drewN hbr _⟩
      have n10 : ((ch.toNat : Int) == 10) = false := ne_bool h10
      by_cases h47 : ch = 47
      · have hv : ((ch.toNat : Int) == 47) = true := by rw [h47]; rfl
        by_cases hss : hasSS l p = true
        · have HSS : Hid (hasSS l p = true) := hss
          have HIN : Hid (Inn l off ic t t) := inn_start HG.out (by rw [HP.out]; exact hss)
          clear h10 h32 h9 h13 h47 hss
          go_wp2_with fail
          go_quiet (fail)
          go_wp2_with fail
          go_quiet (fail)
          go_wp2_with fail
          refine (prefixD _ HL.out hn hlt (HSq.out _) (HRq.out _) HSS).mono ?_
          rintro e w9 ⟨rfl, q9, rfl⟩
          obtain ⟨gO, hgO⟩ : ∃ gO, gO = gk := ⟨_, rfl⟩
          subst hgO
          obtain ⟨wO, hwO⟩ : ∃ wO, wO = wr := ⟨_, rfl⟩
          subst hwO
          clear kc k0 k2 k3 kf HSq HRq hv n32 n9 n13 n10 HSS hpi
          go_wp2
          go_loopg [51] (n - p) (fun g2 _ wy => ∃ u, off + u + g2 = n ∧ Hid (Sc wy S (some ⟨b, bo, none⟩) n ic (off + u)) ∧ Hid (Inn l off ic t u) ∧ Below S w wy)
          case atStart => exact ⟨t, by have := HP.out; omega, HS.out.drewN _, HIN, below_drewN hbr _⟩
          case round =>
            obtain ⟨u, hu, HS2, HI2, hbr2⟩ := hrel
            have k0 := HS2.out.c0
            have k2 := HS2.out.c2
            have kf := HS2.out.f2
            obtain ⟨p2, hp2⟩ : ∃ p2, off + u = p2 := ⟨_, rfl⟩
            rw [hp2] at k2
            have HP2 : Hid (off + u = p2) := hp2
            have HU : Hid (off + u + gk = n) := hu
            clear hp2 hu HIN HS hbr
            by_cases hlt2 : p2 < n
            · obtain ⟨b', bo', hbe, hbS', hcb⟩ := HR.out (by rw [HL.out]; omega)
              obtain ⟨rfl, rfl⟩ : b = b' ∧ bo = bo' := by simpa using hbe
              have kc := (hbr2.cell (p := ⟨b, bo + p2, none⟩) hbS').trans (hcb p2 (by rw [HL.out]; omega))
              clear hcb hbe
              obtain ⟨c2, Hc2⟩ : ∃ ch, Hid (l.getD p2 0 = ch) := ⟨_, rfl⟩
              rw [Hc2.out] at kc
              unfold u8v at kc
              have hpi : (p2 : Int) < (n : Int) := by omega
              have HCC2 : Hid (l.getD (off + u) 0 = c2 ∧ off + u < l.length) := ⟨by rw [HP2.out]; exact Hc2.out, by rw [HP2.out, HL.out]; exact hlt2⟩
              by_cases hnl : c2 = 10
              · have hv : ((c2.toNat : Int) != 10) = false := by rw [hnl]; rfl
                have HGI := inn_end HI2.out (.inr (by rw [HCC2.out.1]; exact hnl))
                have HGI' : Hid (Good l off ic u ∧ t < u) := HGI
                clear hnl HGI
                go_wp2
                go_quiet (fail)
                go_wp2
                go_roundg (n - p2)
                case measure => have := HT.out; have := HP.out; have := HP2.out; have := HGI'.out.2; omega
                case rel => exact ⟨u, by have := HP2.out; omega, HS2.out.drewN _, HGI'.out.1, below_drewN hbr2 _⟩
              · have hv : ((c2.toNat : Int) != 10) = true := by simp only [bne, show ((c2.toNat : Int) == 10) = false from ne_bool hnl]; rfl
                have HIn : Hid (Inn l off ic t (u + 1)) := inn_step HI2.out HCC2.out.2 (by rw [HCC2.out.1]; exact hnl)
                clear hnl
                go_wp2
                go_quiet (fail)
                go_wp2
                go_roundg (gk - 1)
                case measure => have := HU.out; have := HP2.out; omega
                case rel => exact ⟨u + 1, by have := HU.out; have := HP2.out; omega, sc_next HS2.out HP2.out, HIn, (below_drewN hbr2 _).setCell (Nat.le_refl _) _⟩
            · have hpi : decide ((p2 : Int) < (n : Int)) = false := decide_eq_false (by omega)
              have HGI := inn_end HI2.out (.inl (by rw [HP2.out, HL.out]; omega))
              have HGI' : Hid (Good l off ic u ∧ t < u) := HGI
              clear HGI
              go_wp2
              go_quiet (fail)
              go_wp2
              go_roundg (n - p2)
              case measure => have := HT.out; have := HP.out; have := HP2.out; have := HGI'.out.2; have := HGI'.out.1.le; have := HL.out; omega
              case rel => exact ⟨u, by have := HP2.out; have := HGI'.out.1.le; have := HL.out; omega, HS2.out.drewN _, HGI'.out.1, below_drewN hbr2 _⟩
        · have hss' : hasSS l p = false := by simpa using hss
          have HSS : Hid (hasSS l p = false) := hss'
          have HST : Hid (Stop l off ic t) := stop_other HG.out HCC.out.2 (by rw [HP.out]; exact hss') (by rw [HCC.out.1]; exact h32) (by rw [HCC.out.1]; exact h9) (by rw [HCC.out.1]; exact h13) (by rw [HCC.out.1]; exact h10)
          clear h10 h32 h9 h13 h47 hss hss'
          go_wp2_with fail
          go_quiet (fail)
          go_wp2_with fail
          go_quiet (fail)
          go_wp2_with fail
          refine (prefixD _ HL.out hn hlt (HSq.out _) (HRq.out _) HSS).mono ?_
          rintro e w9 ⟨rfl, q9, rfl⟩
          go_wp2
          try simp only [Exit.inBlock, Exit.then]
          refine bodyPost_ret (results_none rfl _ _ _) rfl ?_
          exact ⟨rfl, t, HST.out, HS.out.drewN _, below_drewN hbr _⟩
      have n47 : ((ch.toNat : Int) == 47) = false := ne_bool h47
      have HST : Hid (Stop l off ic t) := stop_other HG.out HCC.out.2 (not_ss (by rw [HCC.out.1]; exact h47)) (by rw [HCC.out.1]; exact h32) (by rw [HCC.out.1]; exact h9) (by rw [HCC.out.1]; exact h13) (by rw [HCC.out.1]; exact h10)
      clear h10 h32 h9 h13 h47
      go_wp2
      go_quiet (fail)
      go_wp2
      go_quiet (fail)
      go_wp2
      try simp only [Exit.inBlock, Exit.then]
      refine bodyPost_ret (results_none rfl _ _ _) rfl ?_
      exact ⟨rfl, t, HST.out, HS.out.drewN _, below_drewN hbr _⟩
    · have HST : Hid (Stop l off ic t) := stop_end HG.out (by rw [hp, HL.out]; omega)
      clear hp ht
      have hpi : decide ((p : Int) < (n : Int)) = false := decide_eq_false (by omega)
      go_wp2
      go_quiet (fail)
      go_wp2
      go_end0
      exact ⟨rfl, t, HST.out, HS.out.drewN _, below_drewN hbr _⟩
end Go.Proofs.Qxb6602368aMods.Sk
