import Derived.Test.Qxb6602626aModsFill
namespace Go.Proofs.Qxb6602626aMods.More
open Go.RowKit Ss

def ext (ss : Nat → ByteArray) (n : Nat) (ex : ByteArray) (j : Nat) : ByteArray := if j < n then ss j else ex

theorem app_ext (g : ByteArray → Bool) (ss : Nat → ByteArray) (n : Nat) (ex : ByteArray) :
    appB (n + 1) (fun j => g (ext ss n ex j)) = ((!(n == 0) && appB n (fun j => g (ss j))) || g ex) := by
  have e1 : anyB (fun j => g (ext ss n ex j)) n = anyB (fun j => g (ss j)) n := anyB_cong (fun j hj => by simp only [ext, if_pos hj])
  have e2 : ext ss n ex n = ex := by simp [ext]
  have e3 : (n + 1 == 0) = false := by simp
  unfold appB
  rw [e3, anyB, e1, e2]
  cases n with
  | zero => simp [anyB]
  | succ n => simp

/-- Beyond the bounds: true at once. -/
theorem big (rn on : ByteArray) (a : Option Addr) (n c : Nat) (ex : ByteArray) (m : Option Nat) (L : Nat) (w : World)
    (h1 : rn.size ≤ maxLen) (h2 : on.size ≤ maxLen) (h3 : n ≤ maxLen) (h4 : ex.size ≤ maxLen) (h5 : L ≤ maxLen)
    (hlen : ∀ ty w', Below w.heap.size w w' → (Builtin.len_ #[27] ty #[.map m]).run Trym.prog w' = .ok (.int .i64 L) w')
    (hbig : 1048576 < rn.size ∨ 1048576 < on.size ∨ 65536 < n ∨ 1048576 < ex.size ∨ 65536 < L) :
    Calls Trym.prog 4 #[.string rn, .string on, .slice a n c, .string ex, .map m] w fun e w' => e = .returned (.bool true) ∧ Below w.heap.size w w' := by
  have hl := hlen 3 w (Below.refl _ _)
  clear hlen
  unfold maxLen at h1 h2 h3 h4 h5
  go_enter Trym.func4, Trym.ntmps4
  go_wp2_with fail
  all_goals (go_ret; exact ⟨rfl, Below.refl _ _⟩)

set_option maxHeartbeats 800000 in
theorem small (rn on : ByteArray) (a : Option Addr) (n c : Nat) (ex : ByteArray) (m : Option Nat) (L : Nat) (ss : Nat → ByteArray) (g : ByteArray → Bool) (w : World)
    (h1 : rn.size ≤ 1048576) (h2 : on.size ≤ 1048576) (h3 : n ≤ 65536) (h4 : ex.size ≤ 1048576) (h5 : L ≤ 65536) (hs : ∀ j, j < n → (ss j).size ≤ maxLen)
    (hr : Reads w w.heap.size a n ss)
    (hlen : ∀ ty w', Below w.heap.size w w' → (Builtin.len_ #[27] ty #[.map m]).run Trym.prog w' = .ok (.int .i64 L) w')
    (hlook : ∀ s : ByteArray, s.size ≤ maxLen → ∀ w', Below w.heap.size w w' → (Instr.lookup 27 (.map m) (.string s) false).run Trym.prog w' = .ok (.bool (g s)) w') :
    Calls Trym.prog 4 #[.string rn, .string on, .slice a n c, .string ex, .map m] w fun e w' => e = .returned (.bool true) ∧ Below w.heap.size w w' := by
  have hl := hlen 3 w (Below.refl _ _)
  clear hlen
  have HL : Hid (∀ s : ByteArray, s.size ≤ maxLen → ∀ w', Below w.heap.size w w' → (Instr.lookup 27 (.map m) (.string s) false).run Trym.prog w' = .ok (.bool (g s)) w') := hlook
  clear hlook
  have HR : Hid (Reads w w.heap.size a n ss) := hr
  clear hr
  have HS : Hid (∀ j, j < n → (ss j).size ≤ maxLen) := hs
  clear hs
  obtain ⟨i0, hi, hz0, hz1, hz2⟩ := info_parts info9
  go_enter Trym.func4, Trym.ntmps4
  go_wp2_with fail
  refine (bytesOf w.heap.size a n c ss w h3 HR.out HS.out).mono ?_
  rintro e w' ⟨t, rfl, ht0, ht1, rfl⟩
  by_cases hsum : 1048576 < t + rn.size + on.size + ex.size
  · go_wp2_with fail
    go_ret
    exact ⟨rfl, Below.refl _ _⟩
  · go_wp2_with (at_make; refine wpList_make_full _ rfl _ _ 22 rfl w'.heap.size 9 i0 (.string ByteArray.empty) 1 Trym.underlying22 hi hz0 hz1 _ _ _ _ (n + 1) rfl rfl (by omega) (by omega) (by rw [hz2]; omega) (by unfold maxLen; omega) (Nat.le_refl _) ?_)
    intro w1 hown hgrow
    have hlt1 : w'.heap.size < w1.heap.size := (hown.lt _ rfl).2
    have hF := Fill.of_owns (ext ss n ex) hown hlt1
    have hbel : Below w'.heap.size w' w1 := (Below.refl _ _).grown hgrow (Nat.le_refl _) (by simp)
    clear hown hgrow hi hz0 hz1 hz2 hlt1
    have HF : Hid (Fill w1 w'.heap.size (n + 1) (fun _ => False) (ext ss n ex)) := hF
    clear hF
    go_wp2
    go_loopw [12] (fun i wr => ∃ k : Nat, k ≤ n ∧ i = .int .i64 k ∧ Below w'.heap.size w' wr ∧ Hid (Fill wr w'.heap.size (n + 1) (fun j => j < k) (ext ss n ex))) (fun i _ => n - (intOf i).toNat)
    case atStart => exact ⟨0, Nat.zero_le _, rfl, hbel, HF.out.cong (fun j _ hj => absurd hj (by omega))⟩
    case round =>
      obtain ⟨k, hk, rfl, hbr, HFr⟩ := hrel
      clear HF hbel
      by_cases hlt : k < n
      · obtain ⟨b, off, rfl, hbB, hc⟩ := HR.out (by omega)
        have hck := (hbr.cell (p := ⟨b, off + k, none⟩) hbB).trans (hc k hlt)
        have hfk := (HFr.out.2.1 k (by omega)).2
        obtain ⟨v0, hv0⟩ := Option.isSome_iff_exists.1 (HFr.out.2.1 k (by omega)).1
        have hst := HFr.out.store (i := k) (P' := fun j => j < k + 1) (by omega) (fun j h1 h2 => by omega)
        have hek : ext ss n ex k = ss k := by unfold ext; rw [if_pos hlt]
        rw [hek] at hst
        have HST : Hid (Fill (wr.setCell ⟨w'.heap.size, k, none⟩ (.string (ss k))) w'.heap.size (n + 1) (fun j => j < k + 1) (ext ss n ex)) := hst
        clear hst hek hc
        generalize ss k = s at hck HST
        go_wp2
        go_roundw
        case rel => exact ⟨k + 1, by omega, by go_num, hbr.setCell (Nat.le_refl _) _, HST⟩
        case measure => simp [intOf]; omega
      · have hkn : k = n := by omega
        subst hkn
        have hfk := (HFr.out.2.1 k (by omega)).2
        obtain ⟨v0, hv0⟩ := Option.isSome_iff_exists.1 (HFr.out.2.1 k (by omega)).1
        have hst := HFr.out.store (i := k) (P' := fun j => j < k + 1) (by omega) (fun j h1 h2 => by omega)
        have hek : ext ss k ex k = ex := by simp [ext]
        rw [hek] at hst
        have hb2 : Below w'.heap.size w' (wr.setCell ⟨w'.heap.size, k, none⟩ (.string ex)) := hbr.setCell (Nat.le_refl _) _
        have hlaw := app_ext g ss k ex
        obtain ⟨bf, Hbf⟩ : ∃ x, Hid (appB k (fun j => g (ss j)) = x) := ⟨_, rfl⟩
        obtain ⟨af, Haf⟩ : ∃ x, Hid (appB (k + 1) (fun j => g (ext ss k ex j)) = x) := ⟨_, rfl⟩
        rw [Hbf.out, Haf.out] at hlaw
        have HLAW : Hid (af = ((!(k == 0) && bf) || g ex)) := hlaw
        have HST : Hid (Fill (wr.setCell ⟨w'.heap.size, k, none⟩ (.string ex)) w'.heap.size (k + 1) (fun j => j < k + 1) (ext ss k ex)) := hst
        have HB2 : Hid (Below w'.heap.size w' (wr.setCell ⟨w'.heap.size, k, none⟩ (.string ex))) := hb2
        clear hst hek hlaw hb2 hbr HFr hlt hk hsum
        go_wp2_with fail
        refine (zzappliesD w'.heap.size ss (fun j => g (ss j)) _ (by omega) HB2.out.size (HR.out.below HB2.out (Nat.le_refl _)) (fun j hj w3 hb3 => HL.out (ss j) (HS.out j hj) w3 (HB2.out.trans (hb3.mono HB2.out.size))) Hbf).mono ?_
        rintro e w3 ⟨rfl, hb3⟩
        have hB3 : Below w'.heap.size w' w3 := HB2.out.trans (hb3.mono HB2.out.size)
        have hF3 := HST.out.below hb3 HST.out.1
        have hlk := HL.out ex (by unfold maxLen; omega) w3 hB3
        have HB3 : Hid (Below w'.heap.size w' w3) := hB3
        have HF3 : Hid (Fill w3 w'.heap.size (k + 1) (fun j => j < k + 1) (ext ss k ex)) := hF3
        clear hb3 hB3 hF3 HST HB2 hv0 hfk hl
        generalize hge : g ex = y at hlk HLAW
        clear hge
        by_cases hk0 : k = 0
        · have hd : ¬ 0 < k := by omega
          have HX : Hid (af = y) := by show af = y; have := HLAW.out; rw [show (k == 0) = true by simpa using hk0] at this; simpa using this
          clear HLAW hk0
          go_wp2_with fail
          refine (zzappliesD (w'.heap.size + 1) (ext ss k ex) (fun j => g (ext ss k ex j)) _ (by omega) HF3.out.1 (HF3.out.reads (Nat.le_refl _) (fun j hj => hj)) (fun j hj w4 hb4 => HL.out (ext ss k ex j) (by unfold ext; split; exact HS.out j (by assumption); unfold maxLen; omega) w4 (HB3.out.trans (hb4.mono HB3.out.size))) Haf).mono ?_
          rintro e w4 ⟨rfl, hb4⟩
          go_wp2
          go_ret
          exact ⟨ret_bool (by rw [HX.out]; simp), HB3.out.trans (hb4.mono HB3.out.size)⟩
        · have hd : 0 < k := by omega
          have HX : Hid (af = (bf || y)) := by show af = (bf || y); have := HLAW.out; rw [show (k == 0) = false by simpa using hk0] at this; simpa using this
          clear HLAW hk0
          cases bf
          · go_wp2_with fail
            refine (zzappliesD (w'.heap.size + 1) (ext ss k ex) (fun j => g (ext ss k ex j)) _ (by omega) HF3.out.1 (HF3.out.reads (Nat.le_refl _) (fun j hj => hj)) (fun j hj w4 hb4 => HL.out (ext ss k ex j) (by unfold ext; split; exact HS.out j (by assumption); unfold maxLen; omega) w4 (HB3.out.trans (hb4.mono HB3.out.size))) Haf).mono ?_
            rintro e w4 ⟨rfl, hb4⟩
            go_wp2
            go_ret
            exact ⟨ret_bool (by rw [HX.out]; simp), HB3.out.trans (hb4.mono HB3.out.size)⟩
          · go_wp2_with fail
            refine (zzappliesD (w'.heap.size + 1) (ext ss k ex) (fun j => g (ext ss k ex j)) _ (by omega) HF3.out.1 (HF3.out.reads (Nat.le_refl _) (fun j hj => hj)) (fun j hj w4 hb4 => HL.out (ext ss k ex j) (by unfold ext; split; exact HS.out j (by assumption); unfold maxLen; omega) w4 (HB3.out.trans (hb4.mono HB3.out.size))) Haf).mono ?_
            rintro e w4 ⟨rfl, hb4⟩
            go_wp2
            go_ret
            exact ⟨ret_bool (by rw [HX.out]; simp), HB3.out.trans (hb4.mono HB3.out.size)⟩
end Go.Proofs.Qxb6602626aMods.More
