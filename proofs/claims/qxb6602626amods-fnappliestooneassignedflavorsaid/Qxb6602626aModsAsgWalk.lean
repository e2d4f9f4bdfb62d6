import Derived.Test.Qxb6602626aModsAsgMaps
import Derived.Test.Qxb6602626aModsListWalk
namespace Go.Proofs.Qxb6602626aMods.Asg
open Go.RowKit Go.Maps Go.WideMaps Ss Lst

theorem appl0 {nm : ByteArray} {m : Option Nat} {a : Option Addr} {c : Nat} (w : World) :
    Calls Trym.prog 13 #[.string nm, .slice a 0 c, .map m] w fun e w' => e = .returned (.bool true) ∧ Below w.heap.size w w' :=
  zzappliesD 0 (fun _ => ByteArray.empty) (fun _ => false) w (by omega) (Nat.zero_le _) (fun h => absurd h (by omega)) (fun j h => absurd h (by omega)) (show _ = _ from rfl)

theorem anyB_false (n : Nat) : anyB (fun _ => false) n = false := by
  induction n with
  | zero => rfl
  | succ n ih => rw [anyB, ih]; rfl
theorem app_pos {n : Nat} (h : 0 < n) (g : Nat → Bool) : appB n g = anyB g n := by
  unfold appB
  rw [show (n == 0) = false by simp; omega]; rfl
theorem app_false {n : Nat} (h : 0 < n) : Hid (appB n (fun _ => false) = false) := by
  show appB n (fun _ => false) = false
  rw [app_pos h, anyB_false]
theorem app_no {n : Nat} {ss : Nat → ByteArray} {y : ByteArray} (h : 0 < n) : Hid (appB n (fun j => decide (ss j = y) && false) = false) := by
  show appB n (fun j => decide (ss j = y) && false) = false
  simp only [Bool.and_false]
  rw [app_pos h, anyB_false]
theorem app_yes {n : Nat} {ss : Nat → ByteArray} {y : ByteArray} {b : Bool} (h : 0 < n) (hb : Hid (anyB (fun j => decide (ss j = y)) n = b)) : Hid (appB n (fun j => decide (ss j = y) && true) = b) := by
  show appB n (fun j => decide (ss j = y) && true) = b
  simp only [Bool.and_true]
  rw [app_pos h]; exact hb

theorem chain4 {w2 wc w3 w4 w6 : World} (h1 : Below w2.heap.size w2 wc) (h2 : Hid (Below wc.heap.size wc w3)) (h3 : Hid (Below w3.heap.size w3 w4)) (h4 : Below (w4.alloc (.map #[] 0)).heap.size (w4.alloc (.map #[] 0)) w6) : Below w2.heap.size w2 w6 := by
  have s1 := h1.size
  have s2 := h2.out.size
  have s3 := h3.out.size
  have s4 : w4.heap.size ≤ (w4.alloc (.map #[] 0)).heap.size := by simp
  exact (((h1.trans (h2.out.mono s1)).trans (h3.out.mono (by omega))).alloc (by omega) _).trans (h4.mono (by omega))

/-- what holds once the three maps lie -/
structure State (wc w3 w4 w : World) (B' : Nat) (a' : Option Addr) (n : Nat) (ss : Nat → ByteArray) (y : ByteArray) : Prop where
  hB : B' ≤ w.heap.size
  hr : Reads w B' a' n ss
  lt : wc.heap.size < w.heap.size ∧ w3.heap.size < w.heap.size ∧ w4.heap.size < w.heap.size
  oy : Own w wc.heap.size (one y true)
  on : Own w w3.heap.size (one y false)
  oe : Own w w4.heap.size (.map [])

theorem State.later {wc w3 w4 w w' : World} {B' : Nat} {a' : Option Addr} {n : Nat} {ss : Nat → ByteArray} {y : ByteArray} (h : State wc w3 w4 w B' a' n ss y) (hb : Below w.heap.size w w') : State wc w3 w4 w' B' a' n ss y :=
  ⟨Nat.le_trans h.hB hb.size, h.hr.below hb h.hB, ⟨Nat.lt_of_lt_of_le h.lt.1 hb.size, Nat.lt_of_lt_of_le h.lt.2.1 hb.size, Nat.lt_of_lt_of_le h.lt.2.2 hb.size⟩, h.oy.below hb h.lt.1, h.on.below hb h.lt.2.1, h.oe.below hb h.lt.2.2⟩

theorem State.yes {wc w3 w4 w w' : World} {B' : Nat} {a' : Option Addr} {n : Nat} {ss : Nat → ByteArray} {y s : ByteArray} (h : State wc w3 w4 w B' a' n ss y) (hs : s.size ≤ maxLen) (hb : Below w.heap.size w w') :
    (Instr.lookup 27 (.map (some wc.heap.size)) (.string s) false).run Trym.prog w' = .ok (.bool (decide (s = y) && true)) w' := (h.later hb).oy.look hs (one_at _ _ _)
theorem State.no {wc w3 w4 w w' : World} {B' : Nat} {a' : Option Addr} {n : Nat} {ss : Nat → ByteArray} {y s : ByteArray} (h : State wc w3 w4 w B' a' n ss y) (hs : s.size ≤ maxLen) (hb : Below w.heap.size w w') :
    (Instr.lookup 27 (.map (some w3.heap.size)) (.string s) false).run Trym.prog w' = .ok (.bool (decide (s = y) && false)) w' := (h.later hb).on.look hs (one_at _ _ _)
theorem State.empty {wc w3 w4 w w' : World} {B' : Nat} {a' : Option Addr} {n : Nat} {ss : Nat → ByteArray} {y s : ByteArray} (h : State wc w3 w4 w B' a' n ss y) (hs : s.size ≤ maxLen) (hb : Below w.heap.size w w') :
    (Instr.lookup 27 (.map (some w4.heap.size)) (.string s) false).run Trym.prog w' = .ok (.bool false) w' := (h.later hb).oe.look hs (none_at _)

theorem state_mk {wc w3 w4 : World} {B' : Nat} {a' : Option Addr} {n : Nat} {ss : Nat → ByteArray} {y : ByteArray} (hr : Hid (Reads wc B' a' n ss)) (hB : B' ≤ wc.heap.size) (h3 : Hid (Below wc.heap.size wc w3)) (o3 : Hid (Own w3 wc.heap.size (one y true))) (l3 : wc.heap.size < w3.heap.size)
    (h4 : Hid (Below w3.heap.size w3 w4)) (o4 : Hid (Own w4 w3.heap.size (one y false))) (l4 : w3.heap.size < w4.heap.size) : State wc w3 w4 (w4.alloc (.map #[] 0)) B' a' n ss y := by
  have hb : Below w4.heap.size w4 (w4.alloc (.map #[] 0)) := (Below.refl _ _).alloc (Nat.le_refl _) _
  have hsz : (w4.alloc (.map #[] 0)).heap.size = w4.heap.size + 1 := by simp
  exact ⟨by omega, (((hr.out.below h3.out hB).below h4.out (by omega)).below hb (by omega)), ⟨by omega, by omega, by omega⟩, (o3.out.below h4.out l3).below hb (by omega), o4.out.below hb l4, ⟨0, World.ownsMap_made _ _ _ _⟩⟩

set_option maxRecDepth 20000 in
theorem big (x : ByteArray) (a : Option Addr) (n c : Nat) (ss : Nat → ByteArray) (y : ByteArray) (w : World) (hn : n ≤ maxLen) (hx : x.size ≤ maxLen) (hy : y.size ≤ maxLen) (hr : Reads w w.heap.size a n ss) (hs : ∀ j, j < n → (ss j).size ≤ maxLen)
    (hbig : 65536 < n ∨ 1048576 < x.size ∨ 1048576 < y.size) :
    Calls Trym.prog 5 #[.string x, .slice a n c, .string y] w fun e w' => e = .returned (.bool true) ∧ Below w.heap.size w w' := by
  have HZ : Hid (Calls Trym.prog 14 #[.string x, .slice a n c, .string y] w fun e w' => AnyBool e ∧ w' = w) := zzbA w.heap.size a n c ss x y w hn hx hy hr hs
  clear hr hs
  unfold maxLen at hn hx hy
  go_enter Trym.func5, Trym.ntmps5
  go_wp2_with fail
  refine HZ.out.mono ?_
  rintro e w' ⟨⟨r, rfl⟩, rfl⟩
  cases r
  · go_wp2
    go_ret
    exact ⟨rfl, Below.refl _ _⟩
  · go_wp2_with fail
    all_goals first | (exfalso; omega) | (go_ret; exact ⟨rfl, Below.refl _ _⟩)

set_option maxRecDepth 20000 in
set_option maxHeartbeats 1000000 in
theorem small (x : ByteArray) (a : Option Addr) (n c : Nat) (ss : Nat → ByteArray) (y : ByteArray) (w : World) (hn : n ≤ 65536) (hx : x.size ≤ 1048576) (hy : y.size ≤ 1048576) (hr : Reads w w.heap.size a n ss) (hs : ∀ j, j < n → (ss j).size ≤ maxLen) :
    Calls Trym.prog 5 #[.string x, .slice a n c, .string y] w fun e w' => e = .returned (.bool true) ∧ Below w.heap.size w w' := by
  have HZ : Hid (Calls Trym.prog 14 #[.string x, .slice a n c, .string y] w fun e w' => AnyBool e ∧ w' = w) := zzbA w.heap.size a n c ss x y w (by unfold maxLen; omega) (by unfold maxLen; omega) (by unfold maxLen; omega) hr hs
  have HR : Hid (Reads w w.heap.size a n ss) := hr
  have HS : Hid (∀ j, j < n → (ss j).size ≤ maxLen) := hs
  clear hr hs
  obtain ⟨i0, hi, hz0, hz1, hz2⟩ := info_parts info9
  have hne := fun wx => run_neq_slice_nil_any (P := Trym.prog) wx 22 9 a n c 0 0 Trym.underlying22
  go_enter Trym.func5, Trym.ntmps5
  go_wp2_with fail
  refine HZ.out.mono ?_
  rintro e w' ⟨⟨r, rfl⟩, rfl⟩
  clear HZ
  cases r
  · go_wp2
    go_ret
    exact ⟨rfl, Below.refl _ _⟩
  go_wp2_with fail
  refine (bytesOf w'.heap.size a n c ss w' hn HR.out HS.out).mono ?_
  rintro e w2 ⟨t, rfl, ht0, ht1, rfl⟩
  by_cases hsum : 1048576 < t + x.size + y.size
  · go_wp2_with fail
    go_ret
    exact ⟨rfl, Below.refl _ _⟩
  go_upto_if 40 with (fail)
  go_cut [1] from 12 (fun s0 wx => ∃ (a' : Option Addr) (c' B' : Nat), s0 = .slice a' n c' ∧ Hid (Reads wx B' a' n ss) ∧ B' ≤ wx.heap.size ∧ Below w2.heap.size w2 wx)
  case first =>
    cases a with
    | none =>
      go_wp2
      go_meet
      case rel => exact ⟨none, c, w2.heap.size, rfl, HR, Nat.le_refl _, Below.refl _ _⟩
    | some ad =>
      go_wp2_with (at_make; refine wpList_make_full _ rfl _ _ 22 rfl w2.heap.size 9 i0 (.string ByteArray.empty) 1 Trym.underlying22 hi hz0 hz1 _ _ _ _ n rfl rfl (by omega) (by omega) (by rw [hz2]; omega) (by unfold maxLen; omega) (Nat.le_refl _) ?_)
      intro w1 hown hgrow
      have hbel : Below w2.heap.size w2 w1 := (Below.refl _ _).grown hgrow (Nat.le_refl _) (by simp)
      obtain ⟨cur, hrow, hcl⟩ := row_of_owns hown
      have HROW : Hid (w1.heap[w2.heap.size]? = some (.cells cur.toArray 9 (0, 0))) := hrow
      have HSRC : Hid (∀ j v, (strCs ss n)[j]? = some v → w1.cell? (ad.add j) = some v) := strCs_src (HR.out.below hbel (Nat.le_refl _))
      have HCL : Hid (cur.length = n) := hcl
      clear hown hgrow hrow hcl
      go_wp2_with (refine wpList_copy_splice rfl (.tmp 44) (.tmp 45) 22 22 rfl 9 Trym.underlying22 sizes9 _ _ n n n c rfl rfl w2.heap.size 0 cur 9 HROW.out (strCs ss n) (strCs_min _ _) (fun _ => ⟨rfl, ad, rfl, HSRC.out⟩) (by rw [strCs_length, HCL.out]; omega) (strCs_one _ _) w2.heap.size w2 hbel (Nat.le_refl _) ?_; intro w3 HROW3 hbel3)
      go_meet
      case rel =>
        have hF : Fill w3 w2.heap.size n (fun _ => True) ss := fill_copied HROW3.out HCL.out (strCs_length _ _) (by unfold maxLen; omega) (fun j hj => strCs_get _ _ _ hj)
        exact ⟨_, n, w2.heap.size + 1, rfl, hF.reads (Nat.le_refl _) (fun _ _ => trivial), hF.1, hbel3⟩
  case rest =>
    obtain ⟨a', c', B', rfl, HR', hB', hbel⟩ := hcut
    clear HR hne hi hz0 hz1 hz2
    have hmm := @run_makeMap Trym.prog
    have HY : Hid (keyOf Trym.prog 9 (.string y) = some (.string y.data.toList)) := keyOf_string_mk Trym.underlying9 (by unfold maxLen; omega)
    have hm0 : 0 < maxLen := by unfold maxLen; omega
    by_cases hn0 : n = 0
    · subst hn0
      go_wp2_with (first | (refine wpList_insert_own (H := Unit) _ rfl (.tmp 51) (.tmp 52) _ 27 rfl 9 4 law Trym.underlying27 (plainElem Trym.prog 4) wc.heap.size 0 (.map []) rfl (World.ownsMap_made _ _ _ _) hm0 _ _ (.string y.data.toList) rfl rfl HY.out (.lit (.bool true)) [] (plainElem_bool Trym.underlying4 true) ?_; intro w3 hown3 hgrow3; have HO3 : Hid (Own w3 wc.heap.size (one y true)) := ⟨_, hown3⟩; have HB3 : Hid (Below wc.heap.size wc w3) := ((Below.refl _ _).alloc (Nat.le_refl _) _).grown hgrow3 (by simp) (by intro k' hk'; cases hk'; exact Nat.le_refl _); have hlt3 : wc.heap.size < w3.heap.size := hown3.lt; clear hown3 hgrow3) | (refine wpList_insert_own (H := Unit) _ rfl (.tmp 54) (.tmp 55) _ 27 rfl 9 4 law Trym.underlying27 (plainElem Trym.prog 4) w3.heap.size 0 (.map []) rfl (World.ownsMap_made _ _ _ _) hm0 _ _ (.string y.data.toList) rfl rfl HY.out (.lit (.bool false)) [] (plainElem_bool Trym.underlying4 false) ?_; intro w4 hown4 hgrow4; have HO4 : Hid (Own w4 w3.heap.size (one y false)) := ⟨_, hown4⟩; have HB4 : Hid (Below w3.heap.size w3 w4) := ((Below.refl _ _).alloc (Nat.le_refl _) _).grown hgrow4 (by simp) (by intro k' hk'; cases hk'; exact Nat.le_refl _); have hlt4 : w3.heap.size < w4.heap.size := hown4.lt; clear hown4 hgrow4))
      refine (appl0 _).mono ?_
      rintro e w6 ⟨rfl, hb6⟩
      have HB6 : Hid (Below w2.heap.size w2 w6) := chain4 hbel HB3 HB4 hb6
      clear hb6 HB3 HB4 HO3 HO4 hbel
      go_wp2_with fail
      refine (appl0 _).mono ?_
      rintro e w7 ⟨rfl, hb7⟩
      have HB7 : Hid (Below w2.heap.size w2 w7) := HB6.out.trans (hb7.mono HB6.out.size)
      clear hb7
      go_wp2_with fail
      refine (appl0 _).mono ?_
      rintro e w8 ⟨rfl, hb8⟩
      have HB8 : Hid (Below w2.heap.size w2 w8) := HB7.out.trans (hb8.mono HB7.out.size)
      clear hb8
      go_wp2_with fail
      refine (appl0 _).mono ?_
      rintro e w9 ⟨rfl, hb9⟩
      have HB9 : Hid (Below w2.heap.size w2 w9) := HB8.out.trans (hb9.mono HB8.out.size)
      clear hb9
      go_wp2
      go_ret
      exact ⟨rfl, HB9.out⟩
    · have hz' : ((n : Int) == 0) = false := by simpa using hn0
      have hpos : 0 < n := by omega
      clear hn0
      go_wp2_with (first | (refine wpList_insert_own (H := Unit) _ rfl (.tmp 51) (.tmp 52) _ 27 rfl 9 4 law Trym.underlying27 (plainElem Trym.prog 4) wc.heap.size 0 (.map []) rfl (World.ownsMap_made _ _ _ _) hm0 _ _ (.string y.data.toList) rfl rfl HY.out (.lit (.bool true)) [] (plainElem_bool Trym.underlying4 true) ?_; intro w3 hown3 hgrow3; have HO3 : Hid (Own w3 wc.heap.size (one y true)) := ⟨_, hown3⟩; have HB3 : Hid (Below wc.heap.size wc w3) := ((Below.refl _ _).alloc (Nat.le_refl _) _).grown hgrow3 (by simp) (by intro k' hk'; cases hk'; exact Nat.le_refl _); have hlt3 : wc.heap.size < w3.heap.size := hown3.lt; clear hown3 hgrow3) | (refine wpList_insert_own (H := Unit) _ rfl (.tmp 54) (.tmp 55) _ 27 rfl 9 4 law Trym.underlying27 (plainElem Trym.prog 4) w3.heap.size 0 (.map []) rfl (World.ownsMap_made _ _ _ _) hm0 _ _ (.string y.data.toList) rfl rfl HY.out (.lit (.bool false)) [] (plainElem_bool Trym.underlying4 false) ?_; intro w4 hown4 hgrow4; have HO4 : Hid (Own w4 w3.heap.size (one y false)) := ⟨_, hown4⟩; have HB4 : Hid (Below w3.heap.size w3 w4) := ((Below.refl _ _).alloc (Nat.le_refl _) _).grown hgrow4 (by simp) (by intro k' hk'; cases hk'; exact Nat.le_refl _); have hlt4 : w3.heap.size < w4.heap.size := hown4.lt; clear hown4 hgrow4))
      obtain ⟨bf, Hbf⟩ : ∃ r, Hid (anyB (fun j => decide (ss j = y)) n = r) := ⟨_, rfl⟩
      have Hap : Hid (appB n (fun j => decide (ss j = y) && true) = bf) := app_yes hpos Hbf
      have HW : Hid (State wc w3 w4 (w4.alloc (.map #[] 0)) B' a' n ss y) := state_mk HR' hB' HB3 HO3 hlt3 HB4 HO4 hlt4
      have HBW : Hid (Below w2.heap.size w2 (w4.alloc (.map #[] 0))) := chain4 hbel HB3 HB4 (Below.refl _ _)
      clear HB3 HB4 HO3 HO4 hbel HR'
      refine (zzappliesD B' ss (fun j => decide (ss j = y) && true) _ (by omega) HW.out.hB HW.out.hr (fun j hj w' hb => HW.out.yes (HS.out j hj) hb) Hap).mono ?_
      rintro e w6 ⟨rfl, hb6⟩
      have HW6 : Hid (State wc w3 w4 w6 B' a' n ss y) := HW.out.later hb6
      have HB6 : Hid (Below w2.heap.size w2 w6) := HBW.out.trans (hb6.mono HBW.out.size)
      clear HW HBW hb6
      go_wp2_with fail
      refine (zzlisted B' ss w6 (by omega) HW6.out.hr Hbf).mono ?_
      rintro e w6' ⟨rfl, hw6⟩
      subst hw6
      go_wp2_with fail
      refine (zzappliesD B' ss (fun j => decide (ss j = y) && false) _ (by omega) HW6.out.hB HW6.out.hr (fun j hj w' hb => HW6.out.no (HS.out j hj) hb) (app_no hpos)).mono ?_
      rintro e w7 ⟨rfl, hb7⟩
      have HW7 : Hid (State wc w3 w4 w7 B' a' n ss y) := HW6.out.later hb7
      have HB7 : Hid (Below w2.heap.size w2 w7) := HB6.out.trans (hb7.mono HB6.out.size)
      clear HW6 HB6 hb7
      go_wp2_with fail
      refine (zzappliesD B' ss (fun _ => false) _ (by omega) HW7.out.hB HW7.out.hr (fun j hj w' hb => HW7.out.empty (HS.out j hj) hb) (app_false hpos)).mono ?_
      rintro e w8 ⟨rfl, hb8⟩
      have HW8 : Hid (State wc w3 w4 w8 B' a' n ss y) := HW7.out.later hb8
      have HB8 : Hid (Below w2.heap.size w2 w8) := HB7.out.trans (hb8.mono HB7.out.size)
      clear HW7 HB7 hb8
      go_wp2_with fail
      refine (zzappliesD B' ss (fun _ => false) _ (by omega) HW8.out.hB HW8.out.hr (fun j hj w' hb => nil_look (HS.out j hj)) (app_false hpos)).mono ?_
      rintro e w9 ⟨rfl, hb9⟩
      have HB9 : Hid (Below w2.heap.size w2 w9) := HB8.out.trans (hb9.mono HB8.out.size)
      clear HW8 HB8 hb9
      go_wp2
      go_ret
      exact ⟨rfl, HB9.out⟩
end Go.Proofs.Qxb6602626aMods.Asg
